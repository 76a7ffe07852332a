-- PRINTED BY print.sh 35421559b90ae4d0a3588c463048766b98c2df88dd9212a6774a882060cdf62d: not written by this session
import Derived.Test.YtkbblppoalgkmaaPDenseTellsx0
namespace Go.Proofs.Ytkbblppoalgkmaa.PDenseTells
open Go.RowKit Go.Proofs.YtkbblppoalgkmaaW.PrintWords Go.Proofs.YtkbblppoalgkmaaW.PrintLast Go.Proofs.YtkbblppoalgkmaaW.PrintMore
attribute [local go_sem] max2_int min2_int max_two min_two max_three min_three max_four min_four   -- for this text's walks alone
set_option linter.unusedVariables false
set_option linter.unusedSimpArgs false

/-! ### utf8_wants: function 18 -/
def utf8_wants.j0 : Nat → Int → Bool → Option (Int)
  | 0, _, _ => none
  | k + 1, x0, x6 => if x6 = true then (some 0) else (if x0 < 224 then (some 2) else (if x0 < 240 then (some 3) else (some 4)))
def utf8_wants.f (k : Nat) (a0 : Int) : Option (Int) := if a0 < 128 then (some 1) else (if a0 < 194 then (utf8_wants.j0 k a0 true) else (utf8_wants.j0 k a0 (decide (a0 > 244))))
theorem utf8_wants.mono_l : ∀ k, (∀ y0 y1, LeO (utf8_wants.j0 k y0 y1) (utf8_wants.j0 (k + 1) y0 y1))
  | 0 => fun _ _ r h => by simp [utf8_wants.j0] at h
  | k + 1 => by
    have ih0 := utf8_wants.mono_l k
    · intro y0 y1
      unfold utf8_wants.j0
      repeat' first
      | (with_reducible exact ih0 _ _)
      | (with_reducible exact LeO.refl _)
      | (with_reducible exact LeO.none _)
      | (with_reducible refine LeO.ite ?_ ?_)
      | (with_reducible refine LeO.bind ?_ (fun _ => ?_))
      | exact ih0 _ _
      | exact LeO.none _
      | refine LeO.ite ?_ ?_
      | refine LeO.bind ?_ (fun _ => ?_)
theorem utf8_wants.mono : ∀ a0 k, LeO (utf8_wants.f k a0) (utf8_wants.f (k + 1) a0) := by
  intro a0 k
  have ih0 := utf8_wants.mono_l k
  unfold utf8_wants.f
  repeat' first
      | (with_reducible exact ih0 _ _)
      | (with_reducible exact LeO.refl _)
      | (with_reducible exact LeO.none _)
      | (with_reducible refine LeO.ite ?_ ?_)
      | (with_reducible refine LeO.bind ?_ (fun _ => ?_))
      | exact ih0 _ _
      | exact LeO.none _
      | refine LeO.ite ?_ ?_
      | refine LeO.bind ?_ (fun _ => ?_)
set_option maxHeartbeats 8000000 in
set_option maxRecDepth 100000 in
theorem utf8_wants.calls (k : Nat) (a0 : Int) (r : Int) (w : World) (h : utf8_wants.f k a0 = some r) :
    Calls Try.prog 18 #[.int .u8 a0] w fun e w' => e = .returned (.int .i64 r) ∧ Drawn0 w w' := by
  have H : (if a0 < 128 then (some 1) else (if a0 < 194 then (utf8_wants.j0 k a0 true) else (utf8_wants.j0 k a0 (decide (a0 > 244))))) = some r := h
  clear h
  by_cases c2 : a0 < 128
  · rw [if_pos c2] at H
    have c2b0 : decide (a0 < 128) = true := decide_eq_true c2
    clear c2
    obtain rfl := Option.some.inj H
    go_enter Try.func18, Try.ntmps18
    go_wp2
    go_ret
    exact ⟨by first | rfl | (simp; done) | (simp [*]; done), by repeat (first | exact Drawn0.refl _ | apply Drawn0.step)⟩
  · rw [if_neg c2] at H
    have c2b0 : decide (a0 < 128) = false := decide_eq_false c2
    clear c2
    have HC3 := Aside0.mk H
    clear H
    go_enter Try.func18, Try.ntmps18
    go_upto_region 3 with (fail)
    go_cut [6] (fun v6 wc => ∃ (kq : Nat) (x6_2 : Bool), v6 = .bool x6_2 ∧ Aside0 (utf8_wants.j0 kq a0 x6_2 = some r) ∧ Aside0 (kq ≤ k) ∧ Drawn0 w wc)
    case first =>
      have H := HC3.out
      clear HC3
      by_cases c4 : a0 < 194
      · rw [if_pos c4] at H
        have c4b0 : decide (a0 < 194) = true := decide_eq_true c4
        clear c4
        (first | rw [c4b0] | (simp only [i64_w, i32_w]; rw [c4b0]) | skip)
        have H' := Aside0.mk H
        clear H
        go_wp2
        go_meet
        case rel => exact ⟨_, (true), (by first | rfl | (simp; done) | (simp [*]; done)), H', ⟨by first | omega | exact Nat.le_refl _⟩, by repeat (first | exact Drawn0.refl _ | apply Drawn0.step)⟩
      · rw [if_neg c4] at H
        have c4b0 : decide (a0 < 194) = false := decide_eq_false c4
        clear c4
        (first | rw [c4b0] | (simp only [i64_w, i32_w]; rw [c4b0]) | skip)
        have H' := Aside0.mk H
        clear H
        go_wp2
        go_meet
        case rel => exact ⟨_, (decide (a0 > 244)), (by first | rfl | (simp; done) | (simp [*]; done)), H', ⟨by first | omega | exact Nat.le_refl _⟩, by repeat (first | exact Drawn0.refl _ | apply Drawn0.step)⟩
    case rest =>
      clear HC3
      try clear c1
      try clear c2
      try clear c2b0
      try clear p2
      try clear c4
      try clear c4b0
      obtain ⟨kq, x6_2, rfl, HA, HJ2, ⟨mc2, rfl⟩⟩ := hcut
      cases kq with
      | zero => exact absurd HA.out (by simp [utf8_wants.j0])
      | succ kj2 =>
        have H := HA.out
        clear HA
        simp only [utf8_wants.j0] at H
        by_cases c5 : x6_2 = true
        · subst c5
          have H1 : (some 0) = some r := by rw [if_pos rfl] at H; exact H
          clear H
          have H := H1
          clear H1
          obtain rfl := Option.some.inj H
          go_wp2
          go_ret
          exact ⟨by first | rfl | (simp; done) | (simp [*]; done), by repeat (first | exact Drawn0.refl _ | apply Drawn0.step)⟩
        · replace c5 := Bool.eq_false_iff.mpr c5
          subst c5
          have H1 : (if a0 < 224 then (some 2) else (if a0 < 240 then (some 3) else (some 4))) = some r := by rw [if_neg (show ¬ (false = true) by decide)] at H; exact H
          clear H
          have H := H1
          clear H1
          by_cases c6 : a0 < 224
          · rw [if_pos c6] at H
            have c6b0 : decide (a0 < 224) = true := decide_eq_true c6
            clear c6
            obtain rfl := Option.some.inj H
            go_wp2
            go_ret
            exact ⟨by first | rfl | (simp; done) | (simp [*]; done), by repeat (first | exact Drawn0.refl _ | apply Drawn0.step)⟩
          · rw [if_neg c6] at H
            have c6b0 : decide (a0 < 224) = false := decide_eq_false c6
            clear c6
            by_cases c7 : a0 < 240
            · rw [if_pos c7] at H
              have c7b0 : decide (a0 < 240) = true := decide_eq_true c7
              clear c7
              obtain rfl := Option.some.inj H
              go_wp2
              go_ret
              exact ⟨by first | rfl | (simp; done) | (simp [*]; done), by repeat (first | exact Drawn0.refl _ | apply Drawn0.step)⟩
            · rw [if_neg c7] at H
              have c7b0 : decide (a0 < 240) = false := decide_eq_false c7
              clear c7
              obtain rfl := Option.some.inj H
              go_wp2
              go_ret
              exact ⟨by first | rfl | (simp; done) | (simp [*]; done), by repeat (first | exact Drawn0.refl _ | apply Drawn0.step)⟩

/-! ### utf8_second: function 19 -/
def utf8_second.f (a0 : Int) (a1 : Int) : Option (Bool) := if a0 = 224 then (if a1 ≥ 160 then (some (decide (a1 ≤ 191))) else (some false)) else (if a0 = 237 then (if a1 ≥ 128 then (some (decide (a1 ≤ 159))) else (some false)) else (if a0 = 240 then (if a1 ≥ 144 then (some (decide (a1 ≤ 191))) else (some false)) else (if a0 = 244 then (if a1 ≥ 128 then (some (decide (a1 ≤ 143))) else (some false)) else (if a1 ≥ 128 then (some (decide (a1 ≤ 191))) else (some false)))))
set_option maxHeartbeats 8000000 in
set_option maxRecDepth 100000 in
theorem utf8_second.calls (a0 : Int) (a1 : Int) (r : Bool) (w : World) (h : utf8_second.f a0 a1 = some r) :
    Calls Try.prog 19 #[.int .u8 a0, .int .u8 a1] w fun e w' => e = .returned (.bool r) ∧ Drawn0 w w' := by
  have H : (if a0 = 224 then (if a1 ≥ 160 then (some (decide (a1 ≤ 191))) else (some false)) else (if a0 = 237 then (if a1 ≥ 128 then (some (decide (a1 ≤ 159))) else (some false)) else (if a0 = 240 then (if a1 ≥ 144 then (some (decide (a1 ≤ 191))) else (some false)) else (if a0 = 244 then (if a1 ≥ 128 then (some (decide (a1 ≤ 143))) else (some false)) else (if a1 ≥ 128 then (some (decide (a1 ≤ 191))) else (some false)))))) = some r := h
  clear h
  by_cases c3 : a0 = 224
  · rw [if_pos c3] at H
    have c3b0 : (a0 == 224) = true := beq_iff_eq.mpr c3
    have c3b1 : (a0 != 224) = false := bne_eq_false_iff_eq.mpr c3
    clear c3
    by_cases c4 : a1 ≥ 160
    · rw [if_pos c4] at H
      have c4b0 : decide (160 ≤ a1) = true := decide_eq_true c4
      clear c4
      obtain rfl := Option.some.inj H
      go_enter Try.func19, Try.ntmps19
      go_wp2
      go_ret
      exact ⟨by first | rfl | (simp; done) | (simp [*]; done), by repeat (first | exact Drawn0.refl _ | apply Drawn0.step)⟩
    · rw [if_neg c4] at H
      have c4b0 : decide (160 ≤ a1) = false := decide_eq_false c4
      clear c4
      obtain rfl := Option.some.inj H
      go_enter Try.func19, Try.ntmps19
      go_wp2
      go_ret
      exact ⟨by first | rfl | (simp; done) | (simp [*]; done), by repeat (first | exact Drawn0.refl _ | apply Drawn0.step)⟩
  · rw [if_neg c3] at H
    have c3b0 : (a0 == 224) = false := beq_eq_false_iff_ne.mpr c3
    have c3b1 : (a0 != 224) = true := bne_iff_ne.mpr c3
    by_cases c5 : a0 = 237
    · rw [if_pos c5] at H
      have c5b0 : (a0 == 237) = true := beq_iff_eq.mpr c5
      have c5b1 : (a0 != 237) = false := bne_eq_false_iff_eq.mpr c5
      clear c5
      by_cases c6 : a1 ≥ 128
      · rw [if_pos c6] at H
        have c6b0 : decide (128 ≤ a1) = true := decide_eq_true c6
        clear c6
        obtain rfl := Option.some.inj H
        go_enter Try.func19, Try.ntmps19
        go_wp2
        go_ret
        exact ⟨by first | rfl | (simp; done) | (simp [*]; done), by repeat (first | exact Drawn0.refl _ | apply Drawn0.step)⟩
      · rw [if_neg c6] at H
        have c6b0 : decide (128 ≤ a1) = false := decide_eq_false c6
        clear c6
        obtain rfl := Option.some.inj H
        go_enter Try.func19, Try.ntmps19
        go_wp2
        go_ret
        exact ⟨by first | rfl | (simp; done) | (simp [*]; done), by repeat (first | exact Drawn0.refl _ | apply Drawn0.step)⟩
    · rw [if_neg c5] at H
      have c5b0 : (a0 == 237) = false := beq_eq_false_iff_ne.mpr c5
      have c5b1 : (a0 != 237) = true := bne_iff_ne.mpr c5
      by_cases c7 : a0 = 240
      · rw [if_pos c7] at H
        have c7b0 : (a0 == 240) = true := beq_iff_eq.mpr c7
        have c7b1 : (a0 != 240) = false := bne_eq_false_iff_eq.mpr c7
        clear c7
        by_cases c8 : a1 ≥ 144
        · rw [if_pos c8] at H
          have c8b0 : decide (144 ≤ a1) = true := decide_eq_true c8
          clear c8
          obtain rfl := Option.some.inj H
          go_enter Try.func19, Try.ntmps19
          go_wp2
          go_ret
          exact ⟨by first | rfl | (simp; done) | (simp [*]; done), by repeat (first | exact Drawn0.refl _ | apply Drawn0.step)⟩
        · rw [if_neg c8] at H
          have c8b0 : decide (144 ≤ a1) = false := decide_eq_false c8
          clear c8
          obtain rfl := Option.some.inj H
          go_enter Try.func19, Try.ntmps19
          go_wp2
          go_ret
          exact ⟨by first | rfl | (simp; done) | (simp [*]; done), by repeat (first | exact Drawn0.refl _ | apply Drawn0.step)⟩
      · rw [if_neg c7] at H
        have c7b0 : (a0 == 240) = false := beq_eq_false_iff_ne.mpr c7
        have c7b1 : (a0 != 240) = true := bne_iff_ne.mpr c7
        by_cases c9 : a0 = 244
        · rw [if_pos c9] at H
          have c9b0 : (a0 == 244) = true := beq_iff_eq.mpr c9
          have c9b1 : (a0 != 244) = false := bne_eq_false_iff_eq.mpr c9
          clear c9
          by_cases c10 : a1 ≥ 128
          · rw [if_pos c10] at H
            have c10b0 : decide (128 ≤ a1) = true := decide_eq_true c10
            clear c10
            obtain rfl := Option.some.inj H
            go_enter Try.func19, Try.ntmps19
            go_wp2
            go_ret
            exact ⟨by first | rfl | (simp; done) | (simp [*]; done), by repeat (first | exact Drawn0.refl _ | apply Drawn0.step)⟩
          · rw [if_neg c10] at H
            have c10b0 : decide (128 ≤ a1) = false := decide_eq_false c10
            clear c10
            obtain rfl := Option.some.inj H
            go_enter Try.func19, Try.ntmps19
            go_wp2
            go_ret
            exact ⟨by first | rfl | (simp; done) | (simp [*]; done), by repeat (first | exact Drawn0.refl _ | apply Drawn0.step)⟩
        · rw [if_neg c9] at H
          have c9b0 : (a0 == 244) = false := beq_eq_false_iff_ne.mpr c9
          have c9b1 : (a0 != 244) = true := bne_iff_ne.mpr c9
          by_cases c11 : a1 ≥ 128
          · rw [if_pos c11] at H
            have c11b0 : decide (128 ≤ a1) = true := decide_eq_true c11
            clear c11
            obtain rfl := Option.some.inj H
            go_enter Try.func19, Try.ntmps19
            go_wp2
            go_ret
            exact ⟨by first | rfl | (simp; done) | (simp [*]; done), by repeat (first | exact Drawn0.refl _ | apply Drawn0.step)⟩
          · rw [if_neg c11] at H
            have c11b0 : decide (128 ≤ a1) = false := decide_eq_false c11
            clear c11
            obtain rfl := Option.some.inj H
            go_enter Try.func19, Try.ntmps19
            go_wp2
            go_ret
            exact ⟨by first | rfl | (simp; done) | (simp [*]; done), by repeat (first | exact Drawn0.refl _ | apply Drawn0.step)⟩

/-! ### utf8_Get: function 16 -/
mutual
def utf8_Get.j0 : Nat → List Int → Int → Int → Option (Int × Int × Int × Int × Int × Int × Int × Int × Int)
  | 0, _, _, _ => none
  | k + 1, x0, x3, x4 => utf8_Get.l0 k x0 x3 x4 1
def utf8_Get.l0 : Nat → List Int → Int → Int → Int → Option (Int × Int × Int × Int × Int × Int × Int × Int × Int)
  | 0, _, _, _, _ => none
  | k + 1, x0, x3, x4, x5 => if x5 < x3 then (if x5 = (x0.length : Int) then (some (1, 0, 0, 0, 0, 0, 0, 0, 0)) else (if 0 ≤ x5 then (if x5 < (x0.length : Int) then (if x5 = 1 then (if 0 < (x0.length : Int) then ((utf8_second.f (rd x0 0) (rd x0 x5)).bind fun t107 => (if t107 = true then (if ((rd x0 x5) / 64) = 2 then (utf8_Get.l0 k x0 x3 (Go.bits .or .i32 (wrap32 (x4 * 64)) (wrap32 (Go.bits .and .u8 (rd x0 x5) 63))) (wrap64 (x5 + 1))) else (some (10, x5, 0, 0, 0, 0, 0, 0, 0))) else (some (10, x5, 0, 0, 0, 0, 0, 0, 0)))) else (none)) else (if ((rd x0 x5) / 64) = 2 then (utf8_Get.l0 k x0 x3 (Go.bits .or .i32 (wrap32 (x4 * 64)) (wrap32 (Go.bits .and .u8 (rd x0 x5) 63))) (wrap64 (x5 + 1))) else (some (10, x5, 0, 0, 0, 0, 0, 0, 0)))) else (none)) else (none))) else (some (0, x3, 1, x4, 0, 0, 0, 0, 0))
end
def utf8_Get.f (k : Nat) (l0 : List Int) : Option (Int × Int × Int × Int × Int × Int × Int × Int × Int) := if (l0.length : Int) = 0 then (some (1, 0, 0, 0, 0, 0, 0, 0, 0)) else (if 0 < (l0.length : Int) then ((utf8_wants.f k (rd l0 0)).bind fun t103 => (if t103 = 0 then (some (10, 1, 0, 0, 0, 0, 0, 0, 0)) else (if t103 > 1 then (if 0 ≤ (wrap64 (7 - t103)) then (utf8_Get.j0 k l0 t103 (Go.bits .and .i32 (wrap32 (rd l0 0)) (wrap32 ((shl .i32 1 (wrap64 (7 - t103))) - 1)))) else (none)) else (utf8_Get.j0 k l0 t103 (wrap32 (rd l0 0)))))) else (none))
theorem utf8_Get.mono_l : ∀ k, (∀ y0 y1 y2, LeO (utf8_Get.j0 k y0 y1 y2) (utf8_Get.j0 (k + 1) y0 y1 y2)) ∧ (∀ y0 y1 y2 y3, LeO (utf8_Get.l0 k y0 y1 y2 y3) (utf8_Get.l0 (k + 1) y0 y1 y2 y3))
  | 0 => ⟨fun _ _ _ r h => by simp [utf8_Get.j0] at h, fun _ _ _ _ r h => by simp [utf8_Get.l0] at h⟩
  | k + 1 => by
    obtain ⟨ih0, ih1⟩ := utf8_Get.mono_l k
    refine ⟨?_, ?_⟩
    · intro y0 y1 y2
      unfold utf8_Get.j0
      repeat' first
      | (with_reducible exact ih0 _ _ _)
      | (with_reducible exact ih1 _ _ _ _)
      | (with_reducible exact utf8_wants.mono _ _)
      | (with_reducible exact LeO.refl _)
      | (with_reducible exact LeO.none _)
      | (with_reducible refine LeO.ite ?_ ?_)
      | (with_reducible refine LeO.bind ?_ (fun _ => ?_))
      | exact ih0 _ _ _
      | exact ih1 _ _ _ _
      | exact utf8_wants.mono _ _
      | exact LeO.none _
      | refine LeO.ite ?_ ?_
      | refine LeO.bind ?_ (fun _ => ?_)
    · intro y0 y1 y2 y3
      unfold utf8_Get.l0
      repeat' first
      | (with_reducible exact ih0 _ _ _)
      | (with_reducible exact ih1 _ _ _ _)
      | (with_reducible exact utf8_wants.mono _ _)
      | (with_reducible exact LeO.refl _)
      | (with_reducible exact LeO.none _)
      | (with_reducible refine LeO.ite ?_ ?_)
      | (with_reducible refine LeO.bind ?_ (fun _ => ?_))
      | exact ih0 _ _ _
      | exact ih1 _ _ _ _
      | exact utf8_wants.mono _ _
      | exact LeO.none _
      | refine LeO.ite ?_ ?_
      | refine LeO.bind ?_ (fun _ => ?_)
theorem utf8_Get.mono : ∀ a0 k, LeO (utf8_Get.f k a0) (utf8_Get.f (k + 1) a0) := by
  intro a0 k
  obtain ⟨ih0, ih1⟩ := utf8_Get.mono_l k
  unfold utf8_Get.f
  repeat' first
      | (with_reducible exact ih0 _ _ _)
      | (with_reducible exact ih1 _ _ _ _)
      | (with_reducible exact utf8_wants.mono _ _)
      | (with_reducible exact LeO.refl _)
      | (with_reducible exact LeO.none _)
      | (with_reducible refine LeO.ite ?_ ?_)
      | (with_reducible refine LeO.bind ?_ (fun _ => ?_))
      | exact ih0 _ _ _
      | exact ih1 _ _ _ _
      | exact utf8_wants.mono _ _
      | exact LeO.none _
      | refine LeO.ite ?_ ?_
      | refine LeO.bind ?_ (fun _ => ?_)
set_option maxHeartbeats 8000000 in
set_option maxRecDepth 100000 in
theorem utf8_Get.calls (k : Nat) (A0 : Option Addr) (c0 : Nat) (l0 : List Int) (r1 : Int) (r2 : Int) (r3 : Int) (r4 : Int) (r5 : Int) (r6 : Int) (r7 : Int) (r8 : Int) (r9 : Int) (w : World) (hr0 : Kd.C (Kd.int .u8) w A0 l0.length l0) (hc0 : l0.length ≤ c0) (h : utf8_Get.f k l0 = some (r1, r2, r3, r4, r5, r6, r7, r8, r9)) :
    Calls Try.prog 16 #[.slice A0 l0.length c0] w fun e w' => e = .returned (.agg #[.int .i64 r1, .int .i64 r2, .int .i64 r3, .int .i32 r4, .int .i32 r5, .int .i64 r6, .int .i64 r7, .int .u32 r8, .int .i32 r9]) ∧ Below w.heap.size w w' := by
  have hu51 := Try.underlying51
  have HR0 := Aside0.mk hr0
  have HC0 := Aside0.mk hc0
  clear hr0 hc0
  have HB := Aside0.mk (Below.refl w.heap.size w)
  have H : (if (l0.length : Int) = 0 then (some (1, 0, 0, 0, 0, 0, 0, 0, 0)) else (if 0 < (l0.length : Int) then ((utf8_wants.f k (rd l0 0)).bind fun t103 => (if t103 = 0 then (some (10, 1, 0, 0, 0, 0, 0, 0, 0)) else (if t103 > 1 then (if 0 ≤ (wrap64 (7 - t103)) then (utf8_Get.j0 k l0 t103 (Go.bits .and .i32 (wrap32 (rd l0 0)) (wrap32 ((shl .i32 1 (wrap64 (7 - t103))) - 1)))) else (none)) else (utf8_Get.j0 k l0 t103 (wrap32 (rd l0 0)))))) else (none))) = some (r1, r2, r3, r4, r5, r6, r7, r8, r9) := h
  clear h
  by_cases c2 : (l0.length : Int) = 0
  · rw [if_pos c2] at H
    have c2b0 : ((l0.length : Int) == 0) = true := beq_iff_eq.mpr c2
    have c2b1 : ((l0.length : Int) != 0) = false := bne_eq_false_iff_eq.mpr c2
    clear c2
    simp only [Option.some.injEq, Prod.mk.injEq] at H
    obtain ⟨rfl, rfl, rfl, rfl, rfl, rfl, rfl, rfl, rfl⟩ := H
    go_enter Try.func16, Try.ntmps16
    go_wp2_with (first | ((with_reducible refine gate_dst (N := 2) rfl ?_); refine box_event ?hg (N := 2) ?hd (cs := #[.int .i64 0, .int .i64 0, .int .i64 0, .int .i32 0, .int .i32 0, .int .i64 0, .int .i64 0, .int .u32 0, .int .i32 0]) (t := 51) ?hr ?_; (case hd => rfl); (case hg => rfl); (case hr => first | (go_simp; done) | (go_simp; rfl)); intro gb101 hg w3 hbox hb; have n0_ := Aside0.mk (below_step (by repeat (first | (with_reducible first | exact HB.out | apply below_alloc | apply pw_below_drewN | apply below_drew1) | exact HB.out)) hb); have n1_ := Aside0.mk (hbox); have n2_ := Aside0.mk ((by rw [hg]; exact (below_size (by repeat (first | (with_reducible first | exact HB.out | apply below_alloc | apply pw_below_drewN | apply below_drew1) | exact HB.out))) : w.heap.size ≤ gb101)); have n3_ := Aside0.mk ((by rw [hg]; exact (below_size (by repeat (first | (with_reducible first | exact HB.out | apply below_alloc | apply pw_below_drewN | apply below_drew1) | exact HB.out))) : w.heap.size ≤ gb101)); clear HB; have HB := n0_; have BK101 := n1_; have GW101 := n2_; have GE101 := n3_; clear n0_ n1_ n2_ n3_; clear hb hbox hg; have hcz4_0 : w3.cell? ⟨gb101, 0, none⟩ = some (.int .i64 0) := (blk_cell BK101.out 0).trans rfl; have hcz4_1 : w3.cell? ⟨gb101, 1, none⟩ = some (.int .i64 0) := (blk_cell BK101.out 1).trans rfl; have hcz4_2 : w3.cell? ⟨gb101, 2, none⟩ = some (.int .i64 0) := (blk_cell BK101.out 2).trans rfl; have hcz4_3 : w3.cell? ⟨gb101, 3, none⟩ = some (.int .i32 0) := (blk_cell BK101.out 3).trans rfl; have hcz4_4 : w3.cell? ⟨gb101, 4, none⟩ = some (.int .i32 0) := (blk_cell BK101.out 4).trans rfl; have hcz4_5 : w3.cell? ⟨gb101, 5, none⟩ = some (.int .i64 0) := (blk_cell BK101.out 5).trans rfl; have hcz4_6 : w3.cell? ⟨gb101, 6, none⟩ = some (.int .i64 0) := (blk_cell BK101.out 6).trans rfl; have hcz4_7 : w3.cell? ⟨gb101, 7, none⟩ = some (.int .u32 0) := (blk_cell BK101.out 7).trans rfl; have hcz4_8 : w3.cell? ⟨gb101, 8, none⟩ = some (.int .i32 0) := (blk_cell BK101.out 8).trans rfl; have hfz4_0 := blk_frozen BK101.out 0; have hfz4_1 := blk_frozen BK101.out 1; have hfz4_2 := blk_frozen BK101.out 2; have hfz4_3 := blk_frozen BK101.out 3; have hfz4_4 := blk_frozen BK101.out 4; have hfz4_5 := blk_frozen BK101.out 5; have hfz4_6 := blk_frozen BK101.out 6; have hfz4_7 := blk_frozen BK101.out 7; have hfz4_8 := blk_frozen BK101.out 8))
    refine bodyPost_ret (results_cell_row rfl _ _ gb101 51 #[.int .i64 1, .int .i64 0, .int .i64 0, .int .i32 0, .int .i32 0, .int .i64 0, .int .i64 0, .int .u32 0, .int .i32 0] (0, 0) _ rfl (by (with_reducible repeat (first | refine blk_drewN ?_ _ | refine blk_drew ?_ | refine blk_alloc ?_ _)); refine blk_put (cs := #[.int .i64 1, .int .i64 0, .int .i64 0, .int .i32 0, .int .i32 0, .int .i64 0, .int .i64 0, .int .u32 0, .int .i32 0]) ?_ 8 _ rfl; (with_reducible repeat (first | refine blk_drewN ?_ _ | refine blk_drew ?_ | refine blk_alloc ?_ _)); refine blk_put (cs := #[.int .i64 1, .int .i64 0, .int .i64 0, .int .i32 0, .int .i32 0, .int .i64 0, .int .i64 0, .int .u32 0, .int .i32 0]) ?_ 7 _ rfl; (with_reducible repeat (first | refine blk_drewN ?_ _ | refine blk_drew ?_ | refine blk_alloc ?_ _)); refine blk_put (cs := #[.int .i64 1, .int .i64 0, .int .i64 0, .int .i32 0, .int .i32 0, .int .i64 0, .int .i64 0, .int .u32 0, .int .i32 0]) ?_ 6 _ rfl; (with_reducible repeat (first | refine blk_drewN ?_ _ | refine blk_drew ?_ | refine blk_alloc ?_ _)); refine blk_put (cs := #[.int .i64 1, .int .i64 0, .int .i64 0, .int .i32 0, .int .i32 0, .int .i64 0, .int .i64 0, .int .u32 0, .int .i32 0]) ?_ 5 _ rfl; (with_reducible repeat (first | refine blk_drewN ?_ _ | refine blk_drew ?_ | refine blk_alloc ?_ _)); refine blk_put (cs := #[.int .i64 1, .int .i64 0, .int .i64 0, .int .i32 0, .int .i32 0, .int .i64 0, .int .i64 0, .int .u32 0, .int .i32 0]) ?_ 4 _ rfl; (with_reducible repeat (first | refine blk_drewN ?_ _ | refine blk_drew ?_ | refine blk_alloc ?_ _)); refine blk_put (cs := #[.int .i64 1, .int .i64 0, .int .i64 0, .int .i32 0, .int .i32 0, .int .i64 0, .int .i64 0, .int .u32 0, .int .i32 0]) ?_ 3 _ rfl; (with_reducible repeat (first | refine blk_drewN ?_ _ | refine blk_drew ?_ | refine blk_alloc ?_ _)); refine blk_put (cs := #[.int .i64 1, .int .i64 0, .int .i64 0, .int .i32 0, .int .i32 0, .int .i64 0, .int .i64 0, .int .u32 0, .int .i32 0]) ?_ 2 _ rfl; (with_reducible repeat (first | refine blk_drewN ?_ _ | refine blk_drew ?_ | refine blk_alloc ?_ _)); refine blk_put (cs := #[.int .i64 1, .int .i64 0, .int .i64 0, .int .i32 0, .int .i32 0, .int .i64 0, .int .i64 0, .int .u32 0, .int .i32 0]) ?_ 1 _ rfl; (with_reducible repeat (first | refine blk_drewN ?_ _ | refine blk_drew ?_ | refine blk_alloc ?_ _)); refine blk_put (cs := #[.int .i64 0, .int .i64 0, .int .i64 0, .int .i32 0, .int .i32 0, .int .i64 0, .int .i64 0, .int .u32 0, .int .i32 0]) ?_ 0 _ rfl; (with_reducible repeat (first | refine blk_drewN ?_ _ | refine blk_drew ?_ | refine blk_alloc ?_ _)); exact BK101.out) Try.underlying51 rfl (by kernel_rfl)) rfl ?_
    exact ⟨by first | rfl | (simp [errW_none, errW_some] <;> rfl) | (simp [*, errW_none, errW_some] <;> rfl), by repeat (first | (with_reducible first | exact HB.out | apply below_alloc | apply pw_below_drewN | apply below_drew1 | refine below_set ?_ GE101.out) | exact HB.out)⟩
  · rw [if_neg c2] at H
    have c2b0 : ((l0.length : Int) == 0) = false := beq_eq_false_iff_ne.mpr c2
    have c2b1 : ((l0.length : Int) != 0) = true := bne_iff_ne.mpr c2
    have c2b2 : ¬ (l0 = []) := fun h_ => c2 (by rw [h_]; rfl)
    by_cases c5 : 0 < (l0.length : Int)
    · rw [if_pos c5] at H
      have c5b0 : decide (0 < (l0.length : Int)) = true := decide_eq_true c5
      have c5b1 : decide (0 < l0.length) = true := decide_eq_true (by omega)
      clear c5
      replace H := Option.bind_eq_some_iff.mp H
      obtain ⟨t103, A60, H⟩ := H
      replace H : (if t103 = 0 then (some (10, 1, 0, 0, 0, 0, 0, 0, 0)) else (if t103 > 1 then (if 0 ≤ (wrap64 (7 - t103)) then (utf8_Get.j0 k l0 t103 (Go.bits .and .i32 (wrap32 (rd l0 0)) (wrap32 ((shl .i32 1 (wrap64 (7 - t103))) - 1)))) else (none)) else (utf8_Get.j0 k l0 t103 (wrap32 (rd l0 0))))) = some (r1, r2, r3, r4, r5, r6, r7, r8, r9) := H
      have A6 := Aside0.mk A60
      clear A60
      by_cases c7 : t103 = 0
      · rw [if_pos c7] at H
        have c7b0 : (t103 == 0) = true := beq_iff_eq.mpr c7
        have c7b1 : (t103 != 0) = false := bne_eq_false_iff_eq.mpr c7
        clear c7
        simp only [Option.some.injEq, Prod.mk.injEq] at H
        obtain ⟨rfl, rfl, rfl, rfl, rfl, rfl, rfl, rfl, rfl⟩ := H
        go_enter Try.func16, Try.ntmps16
        go_wp2_with (first | ((with_reducible refine gate_dst (N := 2) rfl ?_); refine box_event ?hg (N := 2) ?hd (cs := #[.int .i64 0, .int .i64 0, .int .i64 0, .int .i32 0, .int .i32 0, .int .i64 0, .int .i64 0, .int .u32 0, .int .i32 0]) (t := 51) ?hr ?_; (case hd => rfl); (case hg => rfl); (case hr => first | (go_simp; done) | (go_simp; rfl)); intro gb101 hg w8 hbox hb; have n0_ := Aside0.mk (below_step (by repeat (first | (with_reducible first | exact HB.out | apply below_alloc | apply pw_below_drewN | apply below_drew1) | exact HB.out)) hb); have n1_ := Aside0.mk (hbox); have n2_ := Aside0.mk ((by rw [hg]; exact (below_size (by repeat (first | (with_reducible first | exact HB.out | apply below_alloc | apply pw_below_drewN | apply below_drew1) | exact HB.out))) : w.heap.size ≤ gb101)); have n3_ := Aside0.mk ((by rw [hg]; exact (below_size (by repeat (first | (with_reducible first | exact HB.out | apply below_alloc | apply pw_below_drewN | apply below_drew1) | exact HB.out))) : w.heap.size ≤ gb101)); clear HB; have HB := n0_; have BK101 := n1_; have GW101 := n2_; have GE101 := n3_; clear n0_ n1_ n2_ n3_; clear hb hbox hg; have p102 : 0 ≤ (0 : Int) := (by omega); have q102 : 0 < (l0.length : Int) := of_decide_eq_true (by first | (with_reducible assumption) | assumption); obtain ⟨ad102, e102, hx102_0⟩ := Kd.at_int HR0.out 0 p102 q102; cases e102; have qi102 : (0 < l0.length) = True := eq_true (by omega); (try rw [show ((0 : Int)).toNat = 0 from rfl] at hx102_0); (try rw [Addr.add_zero'] at hx102_0); replace hx102_0 := (HB.out.cell (World.block_lt_of_cell? w _ hx102_0)).trans hx102_0; replace p102 := eq_true p102; replace q102 := eq_true q102) | ((with_reducible refine gate_callee (f := 18) rfl ?_); refine goesL_ (some 14) rfl rfl Try.func18 (by kernel_rfl) rfl #[.int .u8 (rd l0 0)] rfl (by (try simp only [List.map_toArray, List.map_cons, List.map_nil]); first | done | rfl | (simp only [List.length_drop, List.length_take]; rfl)) ?_; (with_reducible refine (utf8_wants.calls k (rd l0 0) t103 _ A6.out).mono ?_); rintro e w' ⟨rfl, ⟨nd, rfl⟩⟩; refine ⟨_, rfl, ?_⟩; (try (rw [drewN_self w8]; generalize hq_ : World.drewN w8 _ = w8; have n0_ : Aside0 (w8.heap[gb101]? = some (.cells #[.int .i64 0, .int .i64 0, .int .i64 0, .int .i32 0, .int .i32 0, .int .i64 0, .int .i64 0, .int .u32 0, .int .i32 0] 51 (0, 0))) := ⟨by rw [← hq_]; exact (by (with_reducible repeat (first | refine blk_drewN ?_ _ | refine blk_drew ?_ | refine blk_alloc ?_ _)); exact BK101.out)⟩; have n1_ : Aside0 (Below w.heap.size w w8) := ⟨by rw [← hq_]; exact (by repeat (first | (with_reducible first | exact HB.out | apply below_alloc | apply pw_below_drewN | apply below_drew1 | refine below_set ?_ GE101.out) | exact HB.out))⟩; clear BK101 HB hq_; have BK101 := n0_; have HB := n1_; clear n0_ n1_)); have hcz9_0 : w8.cell? ⟨gb101, 0, none⟩ = some (.int .i64 0) := (blk_cell BK101.out 0).trans rfl; have hcz9_1 : w8.cell? ⟨gb101, 1, none⟩ = some (.int .i64 0) := (blk_cell BK101.out 1).trans rfl; have hcz9_2 : w8.cell? ⟨gb101, 2, none⟩ = some (.int .i64 0) := (blk_cell BK101.out 2).trans rfl; have hcz9_3 : w8.cell? ⟨gb101, 3, none⟩ = some (.int .i32 0) := (blk_cell BK101.out 3).trans rfl; have hcz9_4 : w8.cell? ⟨gb101, 4, none⟩ = some (.int .i32 0) := (blk_cell BK101.out 4).trans rfl; have hcz9_5 : w8.cell? ⟨gb101, 5, none⟩ = some (.int .i64 0) := (blk_cell BK101.out 5).trans rfl; have hcz9_6 : w8.cell? ⟨gb101, 6, none⟩ = some (.int .i64 0) := (blk_cell BK101.out 6).trans rfl; have hcz9_7 : w8.cell? ⟨gb101, 7, none⟩ = some (.int .u32 0) := (blk_cell BK101.out 7).trans rfl; have hcz9_8 : w8.cell? ⟨gb101, 8, none⟩ = some (.int .i32 0) := (blk_cell BK101.out 8).trans rfl; have hfz9_0 := blk_frozen BK101.out 0; have hfz9_1 := blk_frozen BK101.out 1; have hfz9_2 := blk_frozen BK101.out 2; have hfz9_3 := blk_frozen BK101.out 3; have hfz9_4 := blk_frozen BK101.out 4; have hfz9_5 := blk_frozen BK101.out 5; have hfz9_6 := blk_frozen BK101.out 6; have hfz9_7 := blk_frozen BK101.out 7; have hfz9_8 := blk_frozen BK101.out 8))
        refine bodyPost_ret (results_cell_row rfl _ _ gb101 51 #[.int .i64 10, .int .i64 1, .int .i64 0, .int .i32 0, .int .i32 0, .int .i64 0, .int .i64 0, .int .u32 0, .int .i32 0] (0, 0) _ rfl (by (with_reducible repeat (first | refine blk_drewN ?_ _ | refine blk_drew ?_ | refine blk_alloc ?_ _)); refine blk_put (cs := #[.int .i64 10, .int .i64 1, .int .i64 0, .int .i32 0, .int .i32 0, .int .i64 0, .int .i64 0, .int .u32 0, .int .i32 0]) ?_ 8 _ rfl; (with_reducible repeat (first | refine blk_drewN ?_ _ | refine blk_drew ?_ | refine blk_alloc ?_ _)); refine blk_put (cs := #[.int .i64 10, .int .i64 1, .int .i64 0, .int .i32 0, .int .i32 0, .int .i64 0, .int .i64 0, .int .u32 0, .int .i32 0]) ?_ 7 _ rfl; (with_reducible repeat (first | refine blk_drewN ?_ _ | refine blk_drew ?_ | refine blk_alloc ?_ _)); refine blk_put (cs := #[.int .i64 10, .int .i64 1, .int .i64 0, .int .i32 0, .int .i32 0, .int .i64 0, .int .i64 0, .int .u32 0, .int .i32 0]) ?_ 6 _ rfl; (with_reducible repeat (first | refine blk_drewN ?_ _ | refine blk_drew ?_ | refine blk_alloc ?_ _)); refine blk_put (cs := #[.int .i64 10, .int .i64 1, .int .i64 0, .int .i32 0, .int .i32 0, .int .i64 0, .int .i64 0, .int .u32 0, .int .i32 0]) ?_ 5 _ rfl; (with_reducible repeat (first | refine blk_drewN ?_ _ | refine blk_drew ?_ | refine blk_alloc ?_ _)); refine blk_put (cs := #[.int .i64 10, .int .i64 1, .int .i64 0, .int .i32 0, .int .i32 0, .int .i64 0, .int .i64 0, .int .u32 0, .int .i32 0]) ?_ 4 _ rfl; (with_reducible repeat (first | refine blk_drewN ?_ _ | refine blk_drew ?_ | refine blk_alloc ?_ _)); refine blk_put (cs := #[.int .i64 10, .int .i64 1, .int .i64 0, .int .i32 0, .int .i32 0, .int .i64 0, .int .i64 0, .int .u32 0, .int .i32 0]) ?_ 3 _ rfl; (with_reducible repeat (first | refine blk_drewN ?_ _ | refine blk_drew ?_ | refine blk_alloc ?_ _)); refine blk_put (cs := #[.int .i64 10, .int .i64 1, .int .i64 0, .int .i32 0, .int .i32 0, .int .i64 0, .int .i64 0, .int .u32 0, .int .i32 0]) ?_ 2 _ rfl; (with_reducible repeat (first | refine blk_drewN ?_ _ | refine blk_drew ?_ | refine blk_alloc ?_ _)); refine blk_put (cs := #[.int .i64 10, .int .i64 0, .int .i64 0, .int .i32 0, .int .i32 0, .int .i64 0, .int .i64 0, .int .u32 0, .int .i32 0]) ?_ 1 _ rfl; (with_reducible repeat (first | refine blk_drewN ?_ _ | refine blk_drew ?_ | refine blk_alloc ?_ _)); refine blk_put (cs := #[.int .i64 0, .int .i64 0, .int .i64 0, .int .i32 0, .int .i32 0, .int .i64 0, .int .i64 0, .int .u32 0, .int .i32 0]) ?_ 0 _ rfl; (with_reducible repeat (first | refine blk_drewN ?_ _ | refine blk_drew ?_ | refine blk_alloc ?_ _)); exact BK101.out) Try.underlying51 rfl (by kernel_rfl)) rfl ?_
        exact ⟨by first | rfl | (simp [errW_none, errW_some] <;> rfl) | (simp [*, errW_none, errW_some] <;> rfl), by repeat (first | (with_reducible first | exact HB.out | apply below_alloc | apply pw_below_drewN | apply below_drew1 | refine below_set ?_ GE101.out) | exact HB.out)⟩
      · rw [if_neg c7] at H
        have c7b0 : (t103 == 0) = false := beq_eq_false_iff_ne.mpr c7
        have c7b1 : (t103 != 0) = true := bne_iff_ne.mpr c7
        have HC10 := Aside0.mk H
        clear H
        go_enter Try.func16, Try.ntmps16
        go_upto_if 23 with (first | ((with_reducible refine gate_dst (N := 2) rfl ?_); refine box_event ?hg (N := 2) ?hd (cs := #[.int .i64 0, .int .i64 0, .int .i64 0, .int .i32 0, .int .i32 0, .int .i64 0, .int .i64 0, .int .u32 0, .int .i32 0]) (t := 51) ?hr ?_; (case hd => rfl); (case hg => rfl); (case hr => first | (go_simp; done) | (go_simp; rfl)); intro gb101 hg w11 hbox hb; have n0_ := Aside0.mk (below_step (by repeat (first | (with_reducible first | exact HB.out | apply below_alloc | apply pw_below_drewN | apply below_drew1) | exact HB.out)) hb); have n1_ := Aside0.mk (hbox); have n2_ := Aside0.mk ((by rw [hg]; exact (below_size (by repeat (first | (with_reducible first | exact HB.out | apply below_alloc | apply pw_below_drewN | apply below_drew1) | exact HB.out))) : w.heap.size ≤ gb101)); have n3_ := Aside0.mk ((by rw [hg]; exact (below_size (by repeat (first | (with_reducible first | exact HB.out | apply below_alloc | apply pw_below_drewN | apply below_drew1) | exact HB.out))) : w.heap.size ≤ gb101)); clear HB; have HB := n0_; have BK101 := n1_; have GW101 := n2_; have GE101 := n3_; clear n0_ n1_ n2_ n3_; clear hb hbox hg; have p102 : 0 ≤ (0 : Int) := (by omega); have q102 : 0 < (l0.length : Int) := of_decide_eq_true (by first | (with_reducible assumption) | assumption); obtain ⟨ad102, e102, hx102_0⟩ := Kd.at_int HR0.out 0 p102 q102; cases e102; have qi102 : (0 < l0.length) = True := eq_true (by omega); (try rw [show ((0 : Int)).toNat = 0 from rfl] at hx102_0); (try rw [Addr.add_zero'] at hx102_0); replace hx102_0 := (HB.out.cell (World.block_lt_of_cell? w _ hx102_0)).trans hx102_0; replace p102 := eq_true p102; replace q102 := eq_true q102) | ((with_reducible refine gate_callee (f := 18) rfl ?_); refine goesL_ (some 14) rfl rfl Try.func18 (by kernel_rfl) rfl #[.int .u8 (rd l0 0)] rfl (by (try simp only [List.map_toArray, List.map_cons, List.map_nil]); first | done | rfl | (simp only [List.length_drop, List.length_take]; rfl)) ?_; (with_reducible refine (utf8_wants.calls k (rd l0 0) t103 _ A6.out).mono ?_); rintro e w' ⟨rfl, ⟨nd, rfl⟩⟩; refine ⟨_, rfl, ?_⟩; have p104 : 0 ≤ (0 : Int) := (by omega); have q104 : 0 < (l0.length : Int) := of_decide_eq_true (by first | (with_reducible assumption) | assumption); obtain ⟨ad104, e104, hx104_0⟩ := Kd.at_int HR0.out 0 p104 q104; obtain rfl : ad102 = ad104 := (by injection e104); have qi104 : (0 < l0.length) = True := eq_true (by omega); (try rw [show ((0 : Int)).toNat = 0 from rfl] at hx104_0); (try rw [Addr.add_zero'] at hx104_0); replace hx104_0 := (HB.out.cell (World.block_lt_of_cell? w _ hx104_0)).trans hx104_0; replace p104 := eq_true p104; replace q104 := eq_true q104))
        (try simp only [Act.put, List.setIfInBounds_toArray, List.set_cons_zero, List.set_cons_succ])
        go_cut [4] (fun v4 wc => ∃ (kq : Nat) (x4_9 : Int), v4 = .int .i32 x4_9 ∧ Aside0 (utf8_Get.j0 kq l0 t103 x4_9 = some (r1, r2, r3, r4, r5, r6, r7, r8, r9)) ∧ Aside0 (kq ≤ k) ∧ Aside0 (wc.heap[gb101]? = some (.cells #[.int .i64 0, .int .i64 0, .int .i64 0, .int .i32 0, .int .i32 0, .int .i64 0, .int .i64 0, .int .u32 0, .int .i32 0] 51 (0, 0))) ∧ Aside0 (Below w.heap.size w wc))
        case first =>
          have H := HC10.out
          clear HC10
          by_cases c12 : t103 > 1
          · rw [if_pos c12] at H
            have c12b0 : decide (1 < t103) = true := decide_eq_true c12
            clear c12
            (first | rw [c12b0] | (simp only [i64_w, i32_w]; rw [c12b0]) | skip)
            obtain ⟨ji13, hji13⟩ : ∃ j_ : Int, (wrap64 (7 - t103)) = j_ := ⟨_, rfl⟩
            replace H : (if 0 ≤ (ji13) then (utf8_Get.j0 k l0 t103 (Go.bits .and .i32 (wrap32 (rd l0 0)) (wrap32 ((shl .i32 1 (ji13)) - 1)))) else (none)) = some (r1, r2, r3, r4, r5, r6, r7, r8, r9) := by first | (rw [hji13] at H; exact H) | (simp only [hji13] at H ⊢; exact H)
            have hji13w : (IntKind.i64.wrap (7 - t103)) = ji13 := (i64_w _).trans hji13
            by_cases c14 : 0 ≤ (ji13)
            · rw [if_pos c14] at H
              have c14b0 := eq_true c14
              have c14b1 : decide (0 ≤ (ji13)) = true := decide_eq_true c14
              clear c14
              obtain ⟨ji15, hji15⟩ : ∃ j_ : Int, (shl .i32 1 (ji13)) = j_ := ⟨_, rfl⟩
              replace H : (utf8_Get.j0 k l0 t103 (Go.bits .and .i32 (wrap32 (rd l0 0)) (wrap32 ((ji15) - 1)))) = some (r1, r2, r3, r4, r5, r6, r7, r8, r9) := by first | (rw [hji15] at H; exact H) | (simp only [hji15] at H ⊢; exact H)
              have hji15_ : (IntKind.i32.wrap (1 * 2 ^ min (ji13).toNat 32)) = ji15 := hji15
              have hji15z : (ji13) ≤ 32 → (IntKind.i32.wrap (1 * 2 ^ (ji13).toNat)) = ji15 := shl_small hji15
              have hji15u : (IntKind.i32.wrap (2 ^ min (ji13).toNat 32)) = ji15 := by have h_ := hji15_; rw [Int.one_mul] at h_; exact h_
              have hji15v : (ji13) ≤ 32 → (IntKind.i32.wrap (2 ^ (ji13).toNat)) = ji15 := fun hle_ => by have h_ := hji15z hle_; rw [Int.one_mul] at h_; exact h_
              have hji15y : (wrap32 (1 * 2 ^ min (ji13).toNat 32)) = ji15 := (i32_w _).symm.trans hji15_
              have hji15x : (ji13) ≤ 32 → (wrap32 (1 * 2 ^ (ji13).toNat)) = ji15 := fun h_ => (i32_w _).symm.trans (hji15z h_)
              have H' := Aside0.mk H
              clear H
              go_wp2
              go_meet
              case rel => exact ⟨_, (Go.bits .and .i32 (wrap32 (rd l0 0)) (wrap32 ((ji15) - 1))), (by first | rfl | (simp; done) | (simp only [← hji15] <;> (first | rfl | simp)) | (simp [*]; done)), H', ⟨by first | omega | exact Nat.le_refl _⟩, ⟨by (with_reducible repeat (first | refine blk_drewN ?_ _ | refine blk_drew ?_ | refine blk_alloc ?_ _)); exact BK101.out⟩, ⟨by repeat (first | (with_reducible first | exact HB.out | apply below_alloc | apply pw_below_drewN | apply below_drew1 | refine below_set ?_ GE101.out) | exact HB.out)⟩⟩
            · rw [if_neg c14] at H
              exact absurd H (by simp)
          · rw [if_neg c12] at H
            have c12b0 : decide (1 < t103) = false := decide_eq_false c12
            clear c12
            (first | rw [c12b0] | (simp only [i64_w, i32_w]; rw [c12b0]) | skip)
            have H' := Aside0.mk H
            clear H
            go_wp2
            go_meet
            case rel => exact ⟨_, (wrap32 (rd l0 0)), (by first | rfl | (simp; done) | (simp [*]; done)), H', ⟨by first | omega | exact Nat.le_refl _⟩, ⟨by (with_reducible repeat (first | refine blk_drewN ?_ _ | refine blk_drew ?_ | refine blk_alloc ?_ _)); exact BK101.out⟩, ⟨by repeat (first | (with_reducible first | exact HB.out | apply below_alloc | apply pw_below_drewN | apply below_drew1 | refine below_set ?_ GE101.out) | exact HB.out)⟩⟩
        case rest =>
          clear HC10
          try clear c1
          try clear p1
          try clear q1
          try clear hx1
          try clear qi1
          try clear c2
          try clear c2b0
          try clear c2b1
          try clear c2b2
          try clear p2
          try clear p3
          try clear c5
          try clear c5b0
          try clear c5b1
          try clear p6
          try clear c7
          try clear c7b0
          try clear c7b1
          try clear p10
          try clear q10
          try clear hx10
          try clear qi10
          try clear c12
          try clear c12b0
          try clear c14
          try clear c14b0
          try clear c14b1
          try clear hcz4_0
          try clear hcz4_1
          try clear hcz4_2
          try clear hcz4_3
          try clear hcz4_4
          try clear hcz4_5
          try clear hcz4_6
          try clear hcz4_7
          try clear hcz4_8
          try clear hcz9_0
          try clear hcz9_1
          try clear hcz9_2
          try clear hcz9_3
          try clear hcz9_4
          try clear hcz9_5
          try clear hcz9_6
          try clear hcz9_7
          try clear hcz9_8
          try clear hfz4_0
          try clear hfz4_1
          try clear hfz4_2
          try clear hfz4_3
          try clear hfz4_4
          try clear hfz4_5
          try clear hfz4_6
          try clear hfz4_7
          try clear hfz4_8
          try clear hfz9_0
          try clear hfz9_1
          try clear hfz9_2
          try clear hfz9_3
          try clear hfz9_4
          try clear hfz9_5
          try clear hfz9_6
          try clear hfz9_7
          try clear hfz9_8
          try clear hx102_0
          try clear hx104_0
          try clear p102
          try clear p104
          try clear q102
          try clear q104
          obtain ⟨kq, x4_9, rfl, HA, HJ9, BK101, HB⟩ := hcut
          cases kq with
          | zero => exact absurd HA.out (by simp [utf8_Get.j0])
          | succ kj9 =>
            have H := HA.out
            clear HA
            simp only [utf8_Get.j0] at H
            have H' := Aside0.mk H
            clear H
            go_wp2
            go_loopg [4, 5] kj9 (fun kq v4 v5 w' => ∃ (x4_2 : Int) (x5_2 : Int) (x102000_2 : Int) (x102001_2 : Int) (x102002_2 : Int) (x102003_2 : Int) (x102004_2 : Int) (x102005_2 : Int) (x102006_2 : Int) (x102007_2 : Int) (x102008_2 : Int), v4 = .int .i32 x4_2 ∧ v5 = .int .i64 x5_2 ∧ Aside0 (utf8_Get.l0 kq l0 t103 x4_2 x5_2 = some (r1, r2, r3, r4, r5, r6, r7, r8, r9)) ∧ Aside0 (kq ≤ kj9) ∧ Aside0 (w'.heap[gb101]? = some (.cells #[.int .i64 x102000_2, .int .i64 x102001_2, .int .i64 x102002_2, .int .i32 x102003_2, .int .i32 x102004_2, .int .i64 x102005_2, .int .i64 x102006_2, .int .u32 x102007_2, .int .i32 x102008_2] 51 (0, 0))) ∧ Aside0 (Below w.heap.size w w'))
            case atStart => exact ⟨(x4_9), (1), (0), (0), (0), (0), (0), (0), (0), (0), (0), (by first | rfl | (simp; done) | (simp [*]; done)), (by first | rfl | (simp; done) | (simp [*]; done)), H', ⟨Nat.le_refl _⟩, ⟨by (with_reducible repeat (first | refine blk_drewN ?_ _ | refine blk_drew ?_ | refine blk_alloc ?_ _)); exact BK101.out⟩, ⟨by repeat (first | (with_reducible first | exact HB.out | apply below_alloc | apply pw_below_drewN | apply below_drew1 | refine below_set ?_ GE101.out) | exact HB.out)⟩⟩
            case round =>
              clear H'
              try clear c1
              try clear p1
              try clear q1
              try clear hx1
              try clear qi1
              try clear c2
              try clear c2b0
              try clear c2b1
              try clear c2b2
              try clear p2
              try clear p3
              try clear c5
              try clear c5b0
              try clear c5b1
              try clear p6
              try clear c7
              try clear c7b0
              try clear c7b1
              try clear p10
              try clear q10
              try clear hx10
              try clear qi10
              try clear c12
              try clear c12b0
              try clear c14
              try clear c14b0
              try clear c14b1
              try clear hcz4_0
              try clear hcz4_1
              try clear hcz4_2
              try clear hcz4_3
              try clear hcz4_4
              try clear hcz4_5
              try clear hcz4_6
              try clear hcz4_7
              try clear hcz4_8
              try clear hcz9_0
              try clear hcz9_1
              try clear hcz9_2
              try clear hcz9_3
              try clear hcz9_4
              try clear hcz9_5
              try clear hcz9_6
              try clear hcz9_7
              try clear hcz9_8
              try clear hfz4_0
              try clear hfz4_1
              try clear hfz4_2
              try clear hfz4_3
              try clear hfz4_4
              try clear hfz4_5
              try clear hfz4_6
              try clear hfz4_7
              try clear hfz4_8
              try clear hfz9_0
              try clear hfz9_1
              try clear hfz9_2
              try clear hfz9_3
              try clear hfz9_4
              try clear hfz9_5
              try clear hfz9_6
              try clear hfz9_7
              try clear hfz9_8
              try clear hx102_0
              try clear hx104_0
              try clear p1
              try clear p10
              try clear p102
              try clear p104
              try clear p2
              try clear p3
              try clear p6
              try clear q1
              try clear q10
              try clear q102
              try clear q104
              obtain ⟨x4_2, x5_2, x102000_2, x102001_2, x102002_2, x102003_2, x102004_2, x102005_2, x102006_2, x102007_2, x102008_2, rfl, rfl, HA, HK2, BK101, HB⟩ := hrel
              cases gk with
              | zero => exact absurd HA.out (by simp [utf8_Get.l0])
              | succ k2 =>
                have H := HA.out
                clear HA
                simp only [utf8_Get.l0] at H
                by_cases c16 : x5_2 < t103
                · rw [if_pos c16] at H
                  have c16b0 : decide (x5_2 < t103) = true := decide_eq_true c16
                  clear c16
                  by_cases c17 : x5_2 = (l0.length : Int)
                  · rw [if_pos c17] at H
                    have c17b0 : (x5_2 == (l0.length : Int)) = true := beq_iff_eq.mpr c17
                    have c17b1 : (x5_2 != (l0.length : Int)) = false := bne_eq_false_iff_eq.mpr c17
                    clear c17
                    simp only [Option.some.injEq, Prod.mk.injEq] at H
                    obtain ⟨rfl, rfl, rfl, rfl, rfl, rfl, rfl, rfl, rfl⟩ := H
                    have hcz18_0 : wr.cell? ⟨gb101, 0, none⟩ = some (.int .i64 x102000_2) := (blk_cell BK101.out 0).trans rfl
                    have hcz18_1 : wr.cell? ⟨gb101, 1, none⟩ = some (.int .i64 x102001_2) := (blk_cell BK101.out 1).trans rfl
                    have hcz18_2 : wr.cell? ⟨gb101, 2, none⟩ = some (.int .i64 x102002_2) := (blk_cell BK101.out 2).trans rfl
                    have hcz18_3 : wr.cell? ⟨gb101, 3, none⟩ = some (.int .i32 x102003_2) := (blk_cell BK101.out 3).trans rfl
                    have hcz18_4 : wr.cell? ⟨gb101, 4, none⟩ = some (.int .i32 x102004_2) := (blk_cell BK101.out 4).trans rfl
                    have hcz18_5 : wr.cell? ⟨gb101, 5, none⟩ = some (.int .i64 x102005_2) := (blk_cell BK101.out 5).trans rfl
                    have hcz18_6 : wr.cell? ⟨gb101, 6, none⟩ = some (.int .i64 x102006_2) := (blk_cell BK101.out 6).trans rfl
                    have hcz18_7 : wr.cell? ⟨gb101, 7, none⟩ = some (.int .u32 x102007_2) := (blk_cell BK101.out 7).trans rfl
                    have hcz18_8 : wr.cell? ⟨gb101, 8, none⟩ = some (.int .i32 x102008_2) := (blk_cell BK101.out 8).trans rfl
                    have hfz18_0 := blk_frozen BK101.out 0
                    have hfz18_1 := blk_frozen BK101.out 1
                    have hfz18_2 := blk_frozen BK101.out 2
                    have hfz18_3 := blk_frozen BK101.out 3
                    have hfz18_4 := blk_frozen BK101.out 4
                    have hfz18_5 := blk_frozen BK101.out 5
                    have hfz18_6 := blk_frozen BK101.out 6
                    have hfz18_7 := blk_frozen BK101.out 7
                    have hfz18_8 := blk_frozen BK101.out 8
                    go_wp2
                    refine bodyPost_ret (results_cell_row rfl _ _ gb101 51 #[.int .i64 1, .int .i64 0, .int .i64 0, .int .i32 0, .int .i32 0, .int .i64 0, .int .i64 0, .int .u32 0, .int .i32 0] (0, 0) _ rfl (by (with_reducible repeat (first | refine blk_drewN ?_ _ | refine blk_drew ?_ | refine blk_alloc ?_ _)); refine blk_put (cs := #[.int .i64 1, .int .i64 0, .int .i64 0, .int .i32 0, .int .i32 0, .int .i64 0, .int .i64 0, .int .u32 0, .int .i32 x102008_2]) ?_ 8 _ rfl; (with_reducible repeat (first | refine blk_drewN ?_ _ | refine blk_drew ?_ | refine blk_alloc ?_ _)); refine blk_put (cs := #[.int .i64 1, .int .i64 0, .int .i64 0, .int .i32 0, .int .i32 0, .int .i64 0, .int .i64 0, .int .u32 x102007_2, .int .i32 x102008_2]) ?_ 7 _ rfl; (with_reducible repeat (first | refine blk_drewN ?_ _ | refine blk_drew ?_ | refine blk_alloc ?_ _)); refine blk_put (cs := #[.int .i64 1, .int .i64 0, .int .i64 0, .int .i32 0, .int .i32 0, .int .i64 0, .int .i64 x102006_2, .int .u32 x102007_2, .int .i32 x102008_2]) ?_ 6 _ rfl; (with_reducible repeat (first | refine blk_drewN ?_ _ | refine blk_drew ?_ | refine blk_alloc ?_ _)); refine blk_put (cs := #[.int .i64 1, .int .i64 0, .int .i64 0, .int .i32 0, .int .i32 0, .int .i64 x102005_2, .int .i64 x102006_2, .int .u32 x102007_2, .int .i32 x102008_2]) ?_ 5 _ rfl; (with_reducible repeat (first | refine blk_drewN ?_ _ | refine blk_drew ?_ | refine blk_alloc ?_ _)); refine blk_put (cs := #[.int .i64 1, .int .i64 0, .int .i64 0, .int .i32 0, .int .i32 x102004_2, .int .i64 x102005_2, .int .i64 x102006_2, .int .u32 x102007_2, .int .i32 x102008_2]) ?_ 4 _ rfl; (with_reducible repeat (first | refine blk_drewN ?_ _ | refine blk_drew ?_ | refine blk_alloc ?_ _)); refine blk_put (cs := #[.int .i64 1, .int .i64 0, .int .i64 0, .int .i32 x102003_2, .int .i32 x102004_2, .int .i64 x102005_2, .int .i64 x102006_2, .int .u32 x102007_2, .int .i32 x102008_2]) ?_ 3 _ rfl; (with_reducible repeat (first | refine blk_drewN ?_ _ | refine blk_drew ?_ | refine blk_alloc ?_ _)); refine blk_put (cs := #[.int .i64 1, .int .i64 0, .int .i64 x102002_2, .int .i32 x102003_2, .int .i32 x102004_2, .int .i64 x102005_2, .int .i64 x102006_2, .int .u32 x102007_2, .int .i32 x102008_2]) ?_ 2 _ rfl; (with_reducible repeat (first | refine blk_drewN ?_ _ | refine blk_drew ?_ | refine blk_alloc ?_ _)); refine blk_put (cs := #[.int .i64 1, .int .i64 x102001_2, .int .i64 x102002_2, .int .i32 x102003_2, .int .i32 x102004_2, .int .i64 x102005_2, .int .i64 x102006_2, .int .u32 x102007_2, .int .i32 x102008_2]) ?_ 1 _ rfl; (with_reducible repeat (first | refine blk_drewN ?_ _ | refine blk_drew ?_ | refine blk_alloc ?_ _)); refine blk_put (cs := #[.int .i64 x102000_2, .int .i64 x102001_2, .int .i64 x102002_2, .int .i32 x102003_2, .int .i32 x102004_2, .int .i64 x102005_2, .int .i64 x102006_2, .int .u32 x102007_2, .int .i32 x102008_2]) ?_ 0 _ rfl; (with_reducible repeat (first | refine blk_drewN ?_ _ | refine blk_drew ?_ | refine blk_alloc ?_ _)); exact BK101.out) Try.underlying51 rfl (by kernel_rfl)) rfl ?_
                    exact ⟨by first | rfl | (simp [errW_none, errW_some] <;> rfl) | (simp [*, errW_none, errW_some] <;> rfl), by repeat (first | (with_reducible first | exact HB.out | apply below_alloc | apply pw_below_drewN | apply below_drew1 | refine below_set ?_ GE101.out) | exact HB.out)⟩
                  · rw [if_neg c17] at H
                    have c17b0 : (x5_2 == (l0.length : Int)) = false := beq_eq_false_iff_ne.mpr c17
                    have c17b1 : (x5_2 != (l0.length : Int)) = true := bne_iff_ne.mpr c17
                    by_cases c19 : 0 ≤ x5_2
                    · rw [if_pos c19] at H
                      have c19b0 : decide (0 ≤ x5_2) = true := decide_eq_true c19
                      clear c19
                      by_cases c20 : x5_2 < (l0.length : Int)
                      · rw [if_pos c20] at H
                        have c20b0 : decide (x5_2 < (l0.length : Int)) = true := decide_eq_true c20
                        clear c20
                        by_cases c21 : x5_2 = 1
                        · rw [if_pos c21] at H
                          have c21b0 : (x5_2 == 1) = true := beq_iff_eq.mpr c21
                          have c21b1 : (x5_2 != 1) = false := bne_eq_false_iff_eq.mpr c21
                          clear c21
                          by_cases c22 : 0 < (l0.length : Int)
                          · rw [if_pos c22] at H
                            have c22b0 : decide (0 < (l0.length : Int)) = true := decide_eq_true c22
                            have c22b1 : decide (0 < l0.length) = true := decide_eq_true (by omega)
                            clear c22
                            replace H := Option.bind_eq_some_iff.mp H
                            obtain ⟨t107, A230, H⟩ := H
                            replace H : (if t107 = true then (if ((rd l0 x5_2) / 64) = 2 then (utf8_Get.l0 k2 l0 t103 (Go.bits .or .i32 (wrap32 (x4_2 * 64)) (wrap32 (Go.bits .and .u8 (rd l0 x5_2) 63))) (wrap64 (x5_2 + 1))) else (some (10, x5_2, 0, 0, 0, 0, 0, 0, 0))) else (some (10, x5_2, 0, 0, 0, 0, 0, 0, 0))) = some (r1, r2, r3, r4, r5, r6, r7, r8, r9) := H
                            have A23 := Aside0.mk A230
                            clear A230
                            by_cases c24 : t107 = true
                            · subst c24
                              have H1 : (if ((rd l0 x5_2) / 64) = 2 then (utf8_Get.l0 k2 l0 t103 (Go.bits .or .i32 (wrap32 (x4_2 * 64)) (wrap32 (Go.bits .and .u8 (rd l0 x5_2) 63))) (wrap64 (x5_2 + 1))) else (some (10, x5_2, 0, 0, 0, 0, 0, 0, 0))) = some (r1, r2, r3, r4, r5, r6, r7, r8, r9) := by rw [if_pos rfl] at H; exact H
                              clear H
                              have H := H1
                              clear H1
                              by_cases c25 : ((rd l0 x5_2) / 64) = 2
                              · rw [if_pos c25] at H
                                have c25b0 : (((rd l0 x5_2) / 64) == 2) = true := beq_iff_eq.mpr c25
                                have c25b1 : (((rd l0 x5_2) / 64) != 2) = false := bne_eq_false_iff_eq.mpr c25
                                clear c25
                                have H' := Aside0.mk H
                                clear H
                                have p105 : 0 ≤ (x5_2 : Int) := of_decide_eq_true (by first | (with_reducible assumption) | assumption)
                                have q105 : x5_2 < (l0.length : Int) := of_decide_eq_true (by first | (with_reducible assumption) | assumption)
                                obtain ⟨ad105, e105, hx105_0⟩ := Kd.at_int HR0.out x5_2 p105 q105
                                obtain rfl : ad102 = ad105 := (by injection e105)
                                replace hx105_0 := (HB.out.cell (World.block_lt_of_cell? w _ hx105_0)).trans hx105_0
                                replace p105 := eq_true p105
                                replace q105 := eq_true q105
                                have p106 : 0 ≤ (0 : Int) := (by omega)
                                have q106 : 0 < (l0.length : Int) := of_decide_eq_true (by first | (with_reducible assumption) | assumption)
                                obtain ⟨ad106, e106, hx106_0⟩ := Kd.at_int HR0.out 0 p106 q106
                                obtain rfl : ad102 = ad106 := (by injection e106)
                                have qi106 : (0 < l0.length) = True := eq_true (by omega)
                                (try rw [show ((0 : Int)).toNat = 0 from rfl] at hx106_0)
                                (try rw [Addr.add_zero'] at hx106_0)
                                replace hx106_0 := (HB.out.cell (World.block_lt_of_cell? w _ hx106_0)).trans hx106_0
                                replace p106 := eq_true p106
                                replace q106 := eq_true q106
                                go_wp2_with (first | (go_at_call 19; (with_reducible refine (utf8_second.calls (rd l0 0) (rd l0 x5_2) true _ A23.out).mono ?_); rintro e w' ⟨rfl, ⟨nd, rfl⟩⟩))
                                go_roundg k2
                                case measure => have := HJ9.out; have := HK2.out; omega
                                case rel => exact ⟨(Go.bits .or .i32 (wrap32 (x4_2 * 64)) (wrap32 (Go.bits .and .u8 (rd l0 x5_2) 63))), (wrap64 (x5_2 + 1)), (x102000_2), (x102001_2), (x102002_2), (x102003_2), (x102004_2), (x102005_2), (x102006_2), (x102007_2), (x102008_2), (by first | rfl | (simp; done) | (simp [*]; done)), (by first | rfl | (simp; done) | (simp [*]; done)), H', ⟨by have := HJ9.out; have := HK2.out; omega⟩, ⟨by (with_reducible repeat (first | refine blk_drewN ?_ _ | refine blk_drew ?_ | refine blk_alloc ?_ _)); exact BK101.out⟩, ⟨by repeat (first | (with_reducible first | exact HB.out | apply below_alloc | apply pw_below_drewN | apply below_drew1 | refine below_set ?_ GE101.out) | exact HB.out)⟩⟩
                              · rw [if_neg c25] at H
                                have c25b0 : (((rd l0 x5_2) / 64) == 2) = false := beq_eq_false_iff_ne.mpr c25
                                have c25b1 : (((rd l0 x5_2) / 64) != 2) = true := bne_iff_ne.mpr c25
                                simp only [Option.some.injEq, Prod.mk.injEq] at H
                                obtain ⟨rfl, rfl, rfl, rfl, rfl, rfl, rfl, rfl, rfl⟩ := H
                                have p105 : 0 ≤ (x5_2 : Int) := of_decide_eq_true (by first | (with_reducible assumption) | assumption)
                                have q105 : x5_2 < (l0.length : Int) := of_decide_eq_true (by first | (with_reducible assumption) | assumption)
                                obtain ⟨ad105, e105, hx105_0⟩ := Kd.at_int HR0.out x5_2 p105 q105
                                obtain rfl : ad102 = ad105 := (by injection e105)
                                replace hx105_0 := (HB.out.cell (World.block_lt_of_cell? w _ hx105_0)).trans hx105_0
                                replace p105 := eq_true p105
                                replace q105 := eq_true q105
                                have p106 : 0 ≤ (0 : Int) := (by omega)
                                have q106 : 0 < (l0.length : Int) := of_decide_eq_true (by first | (with_reducible assumption) | assumption)
                                obtain ⟨ad106, e106, hx106_0⟩ := Kd.at_int HR0.out 0 p106 q106
                                obtain rfl : ad102 = ad106 := (by injection e106)
                                have qi106 : (0 < l0.length) = True := eq_true (by omega)
                                (try rw [show ((0 : Int)).toNat = 0 from rfl] at hx106_0)
                                (try rw [Addr.add_zero'] at hx106_0)
                                replace hx106_0 := (HB.out.cell (World.block_lt_of_cell? w _ hx106_0)).trans hx106_0
                                replace p106 := eq_true p106
                                replace q106 := eq_true q106
                                go_wp2_with (first | (go_at_call 19; (with_reducible refine (utf8_second.calls (rd l0 0) (rd l0 x5_2) true _ A23.out).mono ?_); rintro e w' ⟨rfl, ⟨nd, rfl⟩⟩; (try (rw [drewN_self wr]; generalize hq_ : World.drewN wr _ = wr; have n0_ : Aside0 (wr.heap[gb101]? = some (.cells #[.int .i64 x102000_2, .int .i64 x102001_2, .int .i64 x102002_2, .int .i32 x102003_2, .int .i32 x102004_2, .int .i64 x102005_2, .int .i64 x102006_2, .int .u32 x102007_2, .int .i32 x102008_2] 51 (0, 0))) := ⟨by rw [← hq_]; exact (by (with_reducible repeat (first | refine blk_drewN ?_ _ | refine blk_drew ?_ | refine blk_alloc ?_ _)); exact BK101.out)⟩; have n1_ : Aside0 (Below w.heap.size w wr) := ⟨by rw [← hq_]; exact (by repeat (first | (with_reducible first | exact HB.out | apply below_alloc | apply pw_below_drewN | apply below_drew1 | refine below_set ?_ GE101.out) | exact HB.out))⟩; clear BK101 HB hq_; have BK101 := n0_; have HB := n1_; clear n0_ n1_)); have hcz26_0 : wr.cell? ⟨gb101, 0, none⟩ = some (.int .i64 x102000_2) := (blk_cell BK101.out 0).trans rfl; have hcz26_1 : wr.cell? ⟨gb101, 1, none⟩ = some (.int .i64 x102001_2) := (blk_cell BK101.out 1).trans rfl; have hcz26_2 : wr.cell? ⟨gb101, 2, none⟩ = some (.int .i64 x102002_2) := (blk_cell BK101.out 2).trans rfl; have hcz26_3 : wr.cell? ⟨gb101, 3, none⟩ = some (.int .i32 x102003_2) := (blk_cell BK101.out 3).trans rfl; have hcz26_4 : wr.cell? ⟨gb101, 4, none⟩ = some (.int .i32 x102004_2) := (blk_cell BK101.out 4).trans rfl; have hcz26_5 : wr.cell? ⟨gb101, 5, none⟩ = some (.int .i64 x102005_2) := (blk_cell BK101.out 5).trans rfl; have hcz26_6 : wr.cell? ⟨gb101, 6, none⟩ = some (.int .i64 x102006_2) := (blk_cell BK101.out 6).trans rfl; have hcz26_7 : wr.cell? ⟨gb101, 7, none⟩ = some (.int .u32 x102007_2) := (blk_cell BK101.out 7).trans rfl; have hcz26_8 : wr.cell? ⟨gb101, 8, none⟩ = some (.int .i32 x102008_2) := (blk_cell BK101.out 8).trans rfl; have hfz26_0 := blk_frozen BK101.out 0; have hfz26_1 := blk_frozen BK101.out 1; have hfz26_2 := blk_frozen BK101.out 2; have hfz26_3 := blk_frozen BK101.out 3; have hfz26_4 := blk_frozen BK101.out 4; have hfz26_5 := blk_frozen BK101.out 5; have hfz26_6 := blk_frozen BK101.out 6; have hfz26_7 := blk_frozen BK101.out 7; have hfz26_8 := blk_frozen BK101.out 8))
                                refine bodyPost_ret (results_cell_row rfl _ _ gb101 51 #[.int .i64 10, .int .i64 x5_2, .int .i64 0, .int .i32 0, .int .i32 0, .int .i64 0, .int .i64 0, .int .u32 0, .int .i32 0] (0, 0) _ rfl (by (with_reducible repeat (first | refine blk_drewN ?_ _ | refine blk_drew ?_ | refine blk_alloc ?_ _)); refine blk_put (cs := #[.int .i64 10, .int .i64 x5_2, .int .i64 0, .int .i32 0, .int .i32 0, .int .i64 0, .int .i64 0, .int .u32 0, .int .i32 x102008_2]) ?_ 8 _ rfl; (with_reducible repeat (first | refine blk_drewN ?_ _ | refine blk_drew ?_ | refine blk_alloc ?_ _)); refine blk_put (cs := #[.int .i64 10, .int .i64 x5_2, .int .i64 0, .int .i32 0, .int .i32 0, .int .i64 0, .int .i64 0, .int .u32 x102007_2, .int .i32 x102008_2]) ?_ 7 _ rfl; (with_reducible repeat (first | refine blk_drewN ?_ _ | refine blk_drew ?_ | refine blk_alloc ?_ _)); refine blk_put (cs := #[.int .i64 10, .int .i64 x5_2, .int .i64 0, .int .i32 0, .int .i32 0, .int .i64 0, .int .i64 x102006_2, .int .u32 x102007_2, .int .i32 x102008_2]) ?_ 6 _ rfl; (with_reducible repeat (first | refine blk_drewN ?_ _ | refine blk_drew ?_ | refine blk_alloc ?_ _)); refine blk_put (cs := #[.int .i64 10, .int .i64 x5_2, .int .i64 0, .int .i32 0, .int .i32 0, .int .i64 x102005_2, .int .i64 x102006_2, .int .u32 x102007_2, .int .i32 x102008_2]) ?_ 5 _ rfl; (with_reducible repeat (first | refine blk_drewN ?_ _ | refine blk_drew ?_ | refine blk_alloc ?_ _)); refine blk_put (cs := #[.int .i64 10, .int .i64 x5_2, .int .i64 0, .int .i32 0, .int .i32 x102004_2, .int .i64 x102005_2, .int .i64 x102006_2, .int .u32 x102007_2, .int .i32 x102008_2]) ?_ 4 _ rfl; (with_reducible repeat (first | refine blk_drewN ?_ _ | refine blk_drew ?_ | refine blk_alloc ?_ _)); refine blk_put (cs := #[.int .i64 10, .int .i64 x5_2, .int .i64 0, .int .i32 x102003_2, .int .i32 x102004_2, .int .i64 x102005_2, .int .i64 x102006_2, .int .u32 x102007_2, .int .i32 x102008_2]) ?_ 3 _ rfl; (with_reducible repeat (first | refine blk_drewN ?_ _ | refine blk_drew ?_ | refine blk_alloc ?_ _)); refine blk_put (cs := #[.int .i64 10, .int .i64 x5_2, .int .i64 x102002_2, .int .i32 x102003_2, .int .i32 x102004_2, .int .i64 x102005_2, .int .i64 x102006_2, .int .u32 x102007_2, .int .i32 x102008_2]) ?_ 2 _ rfl; (with_reducible repeat (first | refine blk_drewN ?_ _ | refine blk_drew ?_ | refine blk_alloc ?_ _)); refine blk_put (cs := #[.int .i64 10, .int .i64 x102001_2, .int .i64 x102002_2, .int .i32 x102003_2, .int .i32 x102004_2, .int .i64 x102005_2, .int .i64 x102006_2, .int .u32 x102007_2, .int .i32 x102008_2]) ?_ 1 _ rfl; (with_reducible repeat (first | refine blk_drewN ?_ _ | refine blk_drew ?_ | refine blk_alloc ?_ _)); refine blk_put (cs := #[.int .i64 x102000_2, .int .i64 x102001_2, .int .i64 x102002_2, .int .i32 x102003_2, .int .i32 x102004_2, .int .i64 x102005_2, .int .i64 x102006_2, .int .u32 x102007_2, .int .i32 x102008_2]) ?_ 0 _ rfl; (with_reducible repeat (first | refine blk_drewN ?_ _ | refine blk_drew ?_ | refine blk_alloc ?_ _)); exact BK101.out) Try.underlying51 rfl (by kernel_rfl)) rfl ?_
                                exact ⟨by first | rfl | (simp [errW_none, errW_some] <;> rfl) | (simp [*, errW_none, errW_some] <;> rfl), by repeat (first | (with_reducible first | exact HB.out | apply below_alloc | apply pw_below_drewN | apply below_drew1 | refine below_set ?_ GE101.out) | exact HB.out)⟩
                            · replace c24 := Bool.eq_false_iff.mpr c24
                              subst c24
                              have H1 : (some (10, x5_2, 0, 0, 0, 0, 0, 0, 0)) = some (r1, r2, r3, r4, r5, r6, r7, r8, r9) := by rw [if_neg (show ¬ (false = true) by decide)] at H; exact H
                              clear H
                              have H := H1
                              clear H1
                              simp only [Option.some.injEq, Prod.mk.injEq] at H
                              obtain ⟨rfl, rfl, rfl, rfl, rfl, rfl, rfl, rfl, rfl⟩ := H
                              have p105 : 0 ≤ (x5_2 : Int) := of_decide_eq_true (by first | (with_reducible assumption) | assumption)
                              have q105 : x5_2 < (l0.length : Int) := of_decide_eq_true (by first | (with_reducible assumption) | assumption)
                              obtain ⟨ad105, e105, hx105_0⟩ := Kd.at_int HR0.out x5_2 p105 q105
                              obtain rfl : ad102 = ad105 := (by injection e105)
                              replace hx105_0 := (HB.out.cell (World.block_lt_of_cell? w _ hx105_0)).trans hx105_0
                              replace p105 := eq_true p105
                              replace q105 := eq_true q105
                              have p106 : 0 ≤ (0 : Int) := (by omega)
                              have q106 : 0 < (l0.length : Int) := of_decide_eq_true (by first | (with_reducible assumption) | assumption)
                              obtain ⟨ad106, e106, hx106_0⟩ := Kd.at_int HR0.out 0 p106 q106
                              obtain rfl : ad102 = ad106 := (by injection e106)
                              have qi106 : (0 < l0.length) = True := eq_true (by omega)
                              (try rw [show ((0 : Int)).toNat = 0 from rfl] at hx106_0)
                              (try rw [Addr.add_zero'] at hx106_0)
                              replace hx106_0 := (HB.out.cell (World.block_lt_of_cell? w _ hx106_0)).trans hx106_0
                              replace p106 := eq_true p106
                              replace q106 := eq_true q106
                              go_wp2_with (first | (go_at_call 19; (with_reducible refine (utf8_second.calls (rd l0 0) (rd l0 x5_2) false _ A23.out).mono ?_); rintro e w' ⟨rfl, ⟨nd, rfl⟩⟩; (try (rw [drewN_self wr]; generalize hq_ : World.drewN wr _ = wr; have n0_ : Aside0 (wr.heap[gb101]? = some (.cells #[.int .i64 x102000_2, .int .i64 x102001_2, .int .i64 x102002_2, .int .i32 x102003_2, .int .i32 x102004_2, .int .i64 x102005_2, .int .i64 x102006_2, .int .u32 x102007_2, .int .i32 x102008_2] 51 (0, 0))) := ⟨by rw [← hq_]; exact (by (with_reducible repeat (first | refine blk_drewN ?_ _ | refine blk_drew ?_ | refine blk_alloc ?_ _)); exact BK101.out)⟩; have n1_ : Aside0 (Below w.heap.size w wr) := ⟨by rw [← hq_]; exact (by repeat (first | (with_reducible first | exact HB.out | apply below_alloc | apply pw_below_drewN | apply below_drew1 | refine below_set ?_ GE101.out) | exact HB.out))⟩; clear BK101 HB hq_; have BK101 := n0_; have HB := n1_; clear n0_ n1_)); have hcz27_0 : wr.cell? ⟨gb101, 0, none⟩ = some (.int .i64 x102000_2) := (blk_cell BK101.out 0).trans rfl; have hcz27_1 : wr.cell? ⟨gb101, 1, none⟩ = some (.int .i64 x102001_2) := (blk_cell BK101.out 1).trans rfl; have hcz27_2 : wr.cell? ⟨gb101, 2, none⟩ = some (.int .i64 x102002_2) := (blk_cell BK101.out 2).trans rfl; have hcz27_3 : wr.cell? ⟨gb101, 3, none⟩ = some (.int .i32 x102003_2) := (blk_cell BK101.out 3).trans rfl; have hcz27_4 : wr.cell? ⟨gb101, 4, none⟩ = some (.int .i32 x102004_2) := (blk_cell BK101.out 4).trans rfl; have hcz27_5 : wr.cell? ⟨gb101, 5, none⟩ = some (.int .i64 x102005_2) := (blk_cell BK101.out 5).trans rfl; have hcz27_6 : wr.cell? ⟨gb101, 6, none⟩ = some (.int .i64 x102006_2) := (blk_cell BK101.out 6).trans rfl; have hcz27_7 : wr.cell? ⟨gb101, 7, none⟩ = some (.int .u32 x102007_2) := (blk_cell BK101.out 7).trans rfl; have hcz27_8 : wr.cell? ⟨gb101, 8, none⟩ = some (.int .i32 x102008_2) := (blk_cell BK101.out 8).trans rfl; have hfz27_0 := blk_frozen BK101.out 0; have hfz27_1 := blk_frozen BK101.out 1; have hfz27_2 := blk_frozen BK101.out 2; have hfz27_3 := blk_frozen BK101.out 3; have hfz27_4 := blk_frozen BK101.out 4; have hfz27_5 := blk_frozen BK101.out 5; have hfz27_6 := blk_frozen BK101.out 6; have hfz27_7 := blk_frozen BK101.out 7; have hfz27_8 := blk_frozen BK101.out 8))
                              refine bodyPost_ret (results_cell_row rfl _ _ gb101 51 #[.int .i64 10, .int .i64 x5_2, .int .i64 0, .int .i32 0, .int .i32 0, .int .i64 0, .int .i64 0, .int .u32 0, .int .i32 0] (0, 0) _ rfl (by (with_reducible repeat (first | refine blk_drewN ?_ _ | refine blk_drew ?_ | refine blk_alloc ?_ _)); refine blk_put (cs := #[.int .i64 10, .int .i64 x5_2, .int .i64 0, .int .i32 0, .int .i32 0, .int .i64 0, .int .i64 0, .int .u32 0, .int .i32 x102008_2]) ?_ 8 _ rfl; (with_reducible repeat (first | refine blk_drewN ?_ _ | refine blk_drew ?_ | refine blk_alloc ?_ _)); refine blk_put (cs := #[.int .i64 10, .int .i64 x5_2, .int .i64 0, .int .i32 0, .int .i32 0, .int .i64 0, .int .i64 0, .int .u32 x102007_2, .int .i32 x102008_2]) ?_ 7 _ rfl; (with_reducible repeat (first | refine blk_drewN ?_ _ | refine blk_drew ?_ | refine blk_alloc ?_ _)); refine blk_put (cs := #[.int .i64 10, .int .i64 x5_2, .int .i64 0, .int .i32 0, .int .i32 0, .int .i64 0, .int .i64 x102006_2, .int .u32 x102007_2, .int .i32 x102008_2]) ?_ 6 _ rfl; (with_reducible repeat (first | refine blk_drewN ?_ _ | refine blk_drew ?_ | refine blk_alloc ?_ _)); refine blk_put (cs := #[.int .i64 10, .int .i64 x5_2, .int .i64 0, .int .i32 0, .int .i32 0, .int .i64 x102005_2, .int .i64 x102006_2, .int .u32 x102007_2, .int .i32 x102008_2]) ?_ 5 _ rfl; (with_reducible repeat (first | refine blk_drewN ?_ _ | refine blk_drew ?_ | refine blk_alloc ?_ _)); refine blk_put (cs := #[.int .i64 10, .int .i64 x5_2, .int .i64 0, .int .i32 0, .int .i32 x102004_2, .int .i64 x102005_2, .int .i64 x102006_2, .int .u32 x102007_2, .int .i32 x102008_2]) ?_ 4 _ rfl; (with_reducible repeat (first | refine blk_drewN ?_ _ | refine blk_drew ?_ | refine blk_alloc ?_ _)); refine blk_put (cs := #[.int .i64 10, .int .i64 x5_2, .int .i64 0, .int .i32 x102003_2, .int .i32 x102004_2, .int .i64 x102005_2, .int .i64 x102006_2, .int .u32 x102007_2, .int .i32 x102008_2]) ?_ 3 _ rfl; (with_reducible repeat (first | refine blk_drewN ?_ _ | refine blk_drew ?_ | refine blk_alloc ?_ _)); refine blk_put (cs := #[.int .i64 10, .int .i64 x5_2, .int .i64 x102002_2, .int .i32 x102003_2, .int .i32 x102004_2, .int .i64 x102005_2, .int .i64 x102006_2, .int .u32 x102007_2, .int .i32 x102008_2]) ?_ 2 _ rfl; (with_reducible repeat (first | refine blk_drewN ?_ _ | refine blk_drew ?_ | refine blk_alloc ?_ _)); refine blk_put (cs := #[.int .i64 10, .int .i64 x102001_2, .int .i64 x102002_2, .int .i32 x102003_2, .int .i32 x102004_2, .int .i64 x102005_2, .int .i64 x102006_2, .int .u32 x102007_2, .int .i32 x102008_2]) ?_ 1 _ rfl; (with_reducible repeat (first | refine blk_drewN ?_ _ | refine blk_drew ?_ | refine blk_alloc ?_ _)); refine blk_put (cs := #[.int .i64 x102000_2, .int .i64 x102001_2, .int .i64 x102002_2, .int .i32 x102003_2, .int .i32 x102004_2, .int .i64 x102005_2, .int .i64 x102006_2, .int .u32 x102007_2, .int .i32 x102008_2]) ?_ 0 _ rfl; (with_reducible repeat (first | refine blk_drewN ?_ _ | refine blk_drew ?_ | refine blk_alloc ?_ _)); exact BK101.out) Try.underlying51 rfl (by kernel_rfl)) rfl ?_
                              exact ⟨by first | rfl | (simp [errW_none, errW_some] <;> rfl) | (simp [*, errW_none, errW_some] <;> rfl), by repeat (first | (with_reducible first | exact HB.out | apply below_alloc | apply pw_below_drewN | apply below_drew1 | refine below_set ?_ GE101.out) | exact HB.out)⟩
                          · rw [if_neg c22] at H
                            exact absurd H (by simp)
                        · rw [if_neg c21] at H
                          have c21b0 : (x5_2 == 1) = false := beq_eq_false_iff_ne.mpr c21
                          have c21b1 : (x5_2 != 1) = true := bne_iff_ne.mpr c21
                          by_cases c28 : ((rd l0 x5_2) / 64) = 2
                          · rw [if_pos c28] at H
                            have c28b0 : (((rd l0 x5_2) / 64) == 2) = true := beq_iff_eq.mpr c28
                            have c28b1 : (((rd l0 x5_2) / 64) != 2) = false := bne_eq_false_iff_eq.mpr c28
                            clear c28
                            have H' := Aside0.mk H
                            clear H
                            have p105 : 0 ≤ (x5_2 : Int) := of_decide_eq_true (by first | (with_reducible assumption) | assumption)
                            have q105 : x5_2 < (l0.length : Int) := of_decide_eq_true (by first | (with_reducible assumption) | assumption)
                            obtain ⟨ad105, e105, hx105_0⟩ := Kd.at_int HR0.out x5_2 p105 q105
                            obtain rfl : ad102 = ad105 := (by injection e105)
                            replace hx105_0 := (HB.out.cell (World.block_lt_of_cell? w _ hx105_0)).trans hx105_0
                            replace p105 := eq_true p105
                            replace q105 := eq_true q105
                            go_wp2
                            go_roundg k2
                            case measure => have := HJ9.out; have := HK2.out; omega
                            case rel => exact ⟨(Go.bits .or .i32 (wrap32 (x4_2 * 64)) (wrap32 (Go.bits .and .u8 (rd l0 x5_2) 63))), (wrap64 (x5_2 + 1)), (x102000_2), (x102001_2), (x102002_2), (x102003_2), (x102004_2), (x102005_2), (x102006_2), (x102007_2), (x102008_2), (by first | rfl | (simp; done) | (simp [*]; done)), (by first | rfl | (simp; done) | (simp [*]; done)), H', ⟨by have := HJ9.out; have := HK2.out; omega⟩, ⟨by (with_reducible repeat (first | refine blk_drewN ?_ _ | refine blk_drew ?_ | refine blk_alloc ?_ _)); exact BK101.out⟩, ⟨by repeat (first | (with_reducible first | exact HB.out | apply below_alloc | apply pw_below_drewN | apply below_drew1 | refine below_set ?_ GE101.out) | exact HB.out)⟩⟩
                          · rw [if_neg c28] at H
                            have c28b0 : (((rd l0 x5_2) / 64) == 2) = false := beq_eq_false_iff_ne.mpr c28
                            have c28b1 : (((rd l0 x5_2) / 64) != 2) = true := bne_iff_ne.mpr c28
                            simp only [Option.some.injEq, Prod.mk.injEq] at H
                            obtain ⟨rfl, rfl, rfl, rfl, rfl, rfl, rfl, rfl, rfl⟩ := H
                            have p105 : 0 ≤ (x5_2 : Int) := of_decide_eq_true (by first | (with_reducible assumption) | assumption)
                            have q105 : x5_2 < (l0.length : Int) := of_decide_eq_true (by first | (with_reducible assumption) | assumption)
                            obtain ⟨ad105, e105, hx105_0⟩ := Kd.at_int HR0.out x5_2 p105 q105
                            obtain rfl : ad102 = ad105 := (by injection e105)
                            replace hx105_0 := (HB.out.cell (World.block_lt_of_cell? w _ hx105_0)).trans hx105_0
                            replace p105 := eq_true p105
                            replace q105 := eq_true q105
                            have hcz29_0 : wr.cell? ⟨gb101, 0, none⟩ = some (.int .i64 x102000_2) := (blk_cell BK101.out 0).trans rfl
                            have hcz29_1 : wr.cell? ⟨gb101, 1, none⟩ = some (.int .i64 x102001_2) := (blk_cell BK101.out 1).trans rfl
                            have hcz29_2 : wr.cell? ⟨gb101, 2, none⟩ = some (.int .i64 x102002_2) := (blk_cell BK101.out 2).trans rfl
                            have hcz29_3 : wr.cell? ⟨gb101, 3, none⟩ = some (.int .i32 x102003_2) := (blk_cell BK101.out 3).trans rfl
                            have hcz29_4 : wr.cell? ⟨gb101, 4, none⟩ = some (.int .i32 x102004_2) := (blk_cell BK101.out 4).trans rfl
                            have hcz29_5 : wr.cell? ⟨gb101, 5, none⟩ = some (.int .i64 x102005_2) := (blk_cell BK101.out 5).trans rfl
                            have hcz29_6 : wr.cell? ⟨gb101, 6, none⟩ = some (.int .i64 x102006_2) := (blk_cell BK101.out 6).trans rfl
                            have hcz29_7 : wr.cell? ⟨gb101, 7, none⟩ = some (.int .u32 x102007_2) := (blk_cell BK101.out 7).trans rfl
                            have hcz29_8 : wr.cell? ⟨gb101, 8, none⟩ = some (.int .i32 x102008_2) := (blk_cell BK101.out 8).trans rfl
                            have hfz29_0 := blk_frozen BK101.out 0
                            have hfz29_1 := blk_frozen BK101.out 1
                            have hfz29_2 := blk_frozen BK101.out 2
                            have hfz29_3 := blk_frozen BK101.out 3
                            have hfz29_4 := blk_frozen BK101.out 4
                            have hfz29_5 := blk_frozen BK101.out 5
                            have hfz29_6 := blk_frozen BK101.out 6
                            have hfz29_7 := blk_frozen BK101.out 7
                            have hfz29_8 := blk_frozen BK101.out 8
                            go_wp2
                            refine bodyPost_ret (results_cell_row rfl _ _ gb101 51 #[.int .i64 10, .int .i64 x5_2, .int .i64 0, .int .i32 0, .int .i32 0, .int .i64 0, .int .i64 0, .int .u32 0, .int .i32 0] (0, 0) _ rfl (by (with_reducible repeat (first | refine blk_drewN ?_ _ | refine blk_drew ?_ | refine blk_alloc ?_ _)); refine blk_put (cs := #[.int .i64 10, .int .i64 x5_2, .int .i64 0, .int .i32 0, .int .i32 0, .int .i64 0, .int .i64 0, .int .u32 0, .int .i32 x102008_2]) ?_ 8 _ rfl; (with_reducible repeat (first | refine blk_drewN ?_ _ | refine blk_drew ?_ | refine blk_alloc ?_ _)); refine blk_put (cs := #[.int .i64 10, .int .i64 x5_2, .int .i64 0, .int .i32 0, .int .i32 0, .int .i64 0, .int .i64 0, .int .u32 x102007_2, .int .i32 x102008_2]) ?_ 7 _ rfl; (with_reducible repeat (first | refine blk_drewN ?_ _ | refine blk_drew ?_ | refine blk_alloc ?_ _)); refine blk_put (cs := #[.int .i64 10, .int .i64 x5_2, .int .i64 0, .int .i32 0, .int .i32 0, .int .i64 0, .int .i64 x102006_2, .int .u32 x102007_2, .int .i32 x102008_2]) ?_ 6 _ rfl; (with_reducible repeat (first | refine blk_drewN ?_ _ | refine blk_drew ?_ | refine blk_alloc ?_ _)); refine blk_put (cs := #[.int .i64 10, .int .i64 x5_2, .int .i64 0, .int .i32 0, .int .i32 0, .int .i64 x102005_2, .int .i64 x102006_2, .int .u32 x102007_2, .int .i32 x102008_2]) ?_ 5 _ rfl; (with_reducible repeat (first | refine blk_drewN ?_ _ | refine blk_drew ?_ | refine blk_alloc ?_ _)); refine blk_put (cs := #[.int .i64 10, .int .i64 x5_2, .int .i64 0, .int .i32 0, .int .i32 x102004_2, .int .i64 x102005_2, .int .i64 x102006_2, .int .u32 x102007_2, .int .i32 x102008_2]) ?_ 4 _ rfl; (with_reducible repeat (first | refine blk_drewN ?_ _ | refine blk_drew ?_ | refine blk_alloc ?_ _)); refine blk_put (cs := #[.int .i64 10, .int .i64 x5_2, .int .i64 0, .int .i32 x102003_2, .int .i32 x102004_2, .int .i64 x102005_2, .int .i64 x102006_2, .int .u32 x102007_2, .int .i32 x102008_2]) ?_ 3 _ rfl; (with_reducible repeat (first | refine blk_drewN ?_ _ | refine blk_drew ?_ | refine blk_alloc ?_ _)); refine blk_put (cs := #[.int .i64 10, .int .i64 x5_2, .int .i64 x102002_2, .int .i32 x102003_2, .int .i32 x102004_2, .int .i64 x102005_2, .int .i64 x102006_2, .int .u32 x102007_2, .int .i32 x102008_2]) ?_ 2 _ rfl; (with_reducible repeat (first | refine blk_drewN ?_ _ | refine blk_drew ?_ | refine blk_alloc ?_ _)); refine blk_put (cs := #[.int .i64 10, .int .i64 x102001_2, .int .i64 x102002_2, .int .i32 x102003_2, .int .i32 x102004_2, .int .i64 x102005_2, .int .i64 x102006_2, .int .u32 x102007_2, .int .i32 x102008_2]) ?_ 1 _ rfl; (with_reducible repeat (first | refine blk_drewN ?_ _ | refine blk_drew ?_ | refine blk_alloc ?_ _)); refine blk_put (cs := #[.int .i64 x102000_2, .int .i64 x102001_2, .int .i64 x102002_2, .int .i32 x102003_2, .int .i32 x102004_2, .int .i64 x102005_2, .int .i64 x102006_2, .int .u32 x102007_2, .int .i32 x102008_2]) ?_ 0 _ rfl; (with_reducible repeat (first | refine blk_drewN ?_ _ | refine blk_drew ?_ | refine blk_alloc ?_ _)); exact BK101.out) Try.underlying51 rfl (by kernel_rfl)) rfl ?_
                            exact ⟨by first | rfl | (simp [errW_none, errW_some] <;> rfl) | (simp [*, errW_none, errW_some] <;> rfl), by repeat (first | (with_reducible first | exact HB.out | apply below_alloc | apply pw_below_drewN | apply below_drew1 | refine below_set ?_ GE101.out) | exact HB.out)⟩
                      · rw [if_neg c20] at H
                        exact absurd H (by simp)
                    · rw [if_neg c19] at H
                      exact absurd H (by simp)
                · rw [if_neg c16] at H
                  have c16b0 : decide (x5_2 < t103) = false := decide_eq_false c16
                  clear c16
                  simp only [Option.some.injEq, Prod.mk.injEq] at H
                  obtain ⟨rfl, rfl, rfl, rfl, rfl, rfl, rfl, rfl, rfl⟩ := H
                  have hcz30_0 : wr.cell? ⟨gb101, 0, none⟩ = some (.int .i64 x102000_2) := (blk_cell BK101.out 0).trans rfl
                  have hcz30_1 : wr.cell? ⟨gb101, 1, none⟩ = some (.int .i64 x102001_2) := (blk_cell BK101.out 1).trans rfl
                  have hcz30_2 : wr.cell? ⟨gb101, 2, none⟩ = some (.int .i64 x102002_2) := (blk_cell BK101.out 2).trans rfl
                  have hcz30_3 : wr.cell? ⟨gb101, 3, none⟩ = some (.int .i32 x102003_2) := (blk_cell BK101.out 3).trans rfl
                  have hcz30_4 : wr.cell? ⟨gb101, 4, none⟩ = some (.int .i32 x102004_2) := (blk_cell BK101.out 4).trans rfl
                  have hcz30_5 : wr.cell? ⟨gb101, 5, none⟩ = some (.int .i64 x102005_2) := (blk_cell BK101.out 5).trans rfl
                  have hcz30_6 : wr.cell? ⟨gb101, 6, none⟩ = some (.int .i64 x102006_2) := (blk_cell BK101.out 6).trans rfl
                  have hcz30_7 : wr.cell? ⟨gb101, 7, none⟩ = some (.int .u32 x102007_2) := (blk_cell BK101.out 7).trans rfl
                  have hcz30_8 : wr.cell? ⟨gb101, 8, none⟩ = some (.int .i32 x102008_2) := (blk_cell BK101.out 8).trans rfl
                  have hfz30_0 := blk_frozen BK101.out 0
                  have hfz30_1 := blk_frozen BK101.out 1
                  have hfz30_2 := blk_frozen BK101.out 2
                  have hfz30_3 := blk_frozen BK101.out 3
                  have hfz30_4 := blk_frozen BK101.out 4
                  have hfz30_5 := blk_frozen BK101.out 5
                  have hfz30_6 := blk_frozen BK101.out 6
                  have hfz30_7 := blk_frozen BK101.out 7
                  have hfz30_8 := blk_frozen BK101.out 8
                  go_wp2
                  refine bodyPost_ret (results_cell_row rfl _ _ gb101 51 #[.int .i64 0, .int .i64 t103, .int .i64 1, .int .i32 x4_2, .int .i32 0, .int .i64 0, .int .i64 0, .int .u32 0, .int .i32 0] (0, 0) _ rfl (by (with_reducible repeat (first | refine blk_drewN ?_ _ | refine blk_drew ?_ | refine blk_alloc ?_ _)); refine blk_put (cs := #[.int .i64 0, .int .i64 t103, .int .i64 1, .int .i32 x4_2, .int .i32 0, .int .i64 0, .int .i64 0, .int .u32 0, .int .i32 x102008_2]) ?_ 8 _ rfl; (with_reducible repeat (first | refine blk_drewN ?_ _ | refine blk_drew ?_ | refine blk_alloc ?_ _)); refine blk_put (cs := #[.int .i64 0, .int .i64 t103, .int .i64 1, .int .i32 x4_2, .int .i32 0, .int .i64 0, .int .i64 0, .int .u32 x102007_2, .int .i32 x102008_2]) ?_ 7 _ rfl; (with_reducible repeat (first | refine blk_drewN ?_ _ | refine blk_drew ?_ | refine blk_alloc ?_ _)); refine blk_put (cs := #[.int .i64 0, .int .i64 t103, .int .i64 1, .int .i32 x4_2, .int .i32 0, .int .i64 0, .int .i64 x102006_2, .int .u32 x102007_2, .int .i32 x102008_2]) ?_ 6 _ rfl; (with_reducible repeat (first | refine blk_drewN ?_ _ | refine blk_drew ?_ | refine blk_alloc ?_ _)); refine blk_put (cs := #[.int .i64 0, .int .i64 t103, .int .i64 1, .int .i32 x4_2, .int .i32 0, .int .i64 x102005_2, .int .i64 x102006_2, .int .u32 x102007_2, .int .i32 x102008_2]) ?_ 5 _ rfl; (with_reducible repeat (first | refine blk_drewN ?_ _ | refine blk_drew ?_ | refine blk_alloc ?_ _)); refine blk_put (cs := #[.int .i64 0, .int .i64 t103, .int .i64 1, .int .i32 x4_2, .int .i32 x102004_2, .int .i64 x102005_2, .int .i64 x102006_2, .int .u32 x102007_2, .int .i32 x102008_2]) ?_ 4 _ rfl; (with_reducible repeat (first | refine blk_drewN ?_ _ | refine blk_drew ?_ | refine blk_alloc ?_ _)); refine blk_put (cs := #[.int .i64 0, .int .i64 t103, .int .i64 1, .int .i32 x102003_2, .int .i32 x102004_2, .int .i64 x102005_2, .int .i64 x102006_2, .int .u32 x102007_2, .int .i32 x102008_2]) ?_ 3 _ rfl; (with_reducible repeat (first | refine blk_drewN ?_ _ | refine blk_drew ?_ | refine blk_alloc ?_ _)); refine blk_put (cs := #[.int .i64 0, .int .i64 t103, .int .i64 x102002_2, .int .i32 x102003_2, .int .i32 x102004_2, .int .i64 x102005_2, .int .i64 x102006_2, .int .u32 x102007_2, .int .i32 x102008_2]) ?_ 2 _ rfl; (with_reducible repeat (first | refine blk_drewN ?_ _ | refine blk_drew ?_ | refine blk_alloc ?_ _)); refine blk_put (cs := #[.int .i64 0, .int .i64 x102001_2, .int .i64 x102002_2, .int .i32 x102003_2, .int .i32 x102004_2, .int .i64 x102005_2, .int .i64 x102006_2, .int .u32 x102007_2, .int .i32 x102008_2]) ?_ 1 _ rfl; (with_reducible repeat (first | refine blk_drewN ?_ _ | refine blk_drew ?_ | refine blk_alloc ?_ _)); refine blk_put (cs := #[.int .i64 x102000_2, .int .i64 x102001_2, .int .i64 x102002_2, .int .i32 x102003_2, .int .i32 x102004_2, .int .i64 x102005_2, .int .i64 x102006_2, .int .u32 x102007_2, .int .i32 x102008_2]) ?_ 0 _ rfl; (with_reducible repeat (first | refine blk_drewN ?_ _ | refine blk_drew ?_ | refine blk_alloc ?_ _)); exact BK101.out) Try.underlying51 rfl (by kernel_rfl)) rfl ?_
                  exact ⟨by first | rfl | (simp [errW_none, errW_some] <;> rfl) | (simp [*, errW_none, errW_some] <;> rfl), by repeat (first | (with_reducible first | exact HB.out | apply below_alloc | apply pw_below_drewN | apply below_drew1 | refine below_set ?_ GE101.out) | exact HB.out)⟩
    · rw [if_neg c5] at H
      exact absurd H (by simp)

end Go.Proofs.Ytkbblppoalgkmaa.PDenseTells
