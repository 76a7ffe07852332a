/- Of the print of ScriptDigits: script.digit and script.Bytes, whose walks build. -/
import Derived.Test.YtadhfojgifhjcaaPScriptDigitsx0
namespace Go.Proofs.Ytadhfojgifhjcaa.PScriptDigits
open Go.RowKit Go.Proofs.YtadhfojgifhjcaaW.PrintWords Go.Proofs.YtadhfojgifhjcaaW.PrintLast Go.Proofs.YtadhfojgifhjcaaW.PrintMore
attribute [local go_sem] max2_int min2_int max_two min_two max_three min_three max_four min_four   -- for this text's walks alone
set_option linter.unusedVariables false
set_option linter.unusedSimpArgs false

/-! ### script_digit: function 46 -/
mutual
def script_digit.j0 : Nat → Int → Bool → Option (Int × Bool)
  | 0, _, _ => none
  | k + 1, x0, x4 => if x4 = true then (some ((x0 - 48) % 256, true)) else (if x0 ≥ 65 then (script_digit.j1 k x0 (decide (x0 ≤ 70))) else (script_digit.j1 k x0 false))
def script_digit.j1 : Nat → Int → Bool → Option (Int × Bool)
  | 0, _, _ => none
  | k + 1, x0, x13 => if x13 = true then (some ((((x0 - 65) % 256) + 10) % 256, true)) else (if x0 ≥ 97 then (if x0 ≤ 102 then (some ((((x0 - 97) % 256) + 10) % 256, true)) else (some (0, false))) else (some (0, false)))
end
def script_digit.f (k : Nat) (a0 : Int) : Option (Int × Bool) := if a0 ≥ 48 then (script_digit.j0 k a0 (decide (a0 ≤ 57))) else (script_digit.j0 k a0 false)
theorem script_digit.mono_l : ∀ k, (∀ y0 y1, LeO (script_digit.j0 k y0 y1) (script_digit.j0 (k + 1) y0 y1)) ∧ (∀ y0 y1, LeO (script_digit.j1 k y0 y1) (script_digit.j1 (k + 1) y0 y1))
  | 0 => ⟨fun _ _ r h => by simp [script_digit.j0] at h, fun _ _ r h => by simp [script_digit.j1] at h⟩
  | k + 1 => by
    obtain ⟨ih0, ih1⟩ := script_digit.mono_l k
    refine ⟨?_, ?_⟩
    · intro y0 y1
      unfold script_digit.j0
      repeat' first
      | (with_reducible exact ih0 _ _)
      | (with_reducible exact ih1 _ _)
      | (with_reducible exact LeO.refl _)
      | (with_reducible exact LeO.none _)
      | (with_reducible refine LeO.ite ?_ ?_)
      | (with_reducible refine LeO.bind ?_ (fun _ => ?_))
      | exact ih0 _ _
      | exact ih1 _ _
      | exact LeO.none _
      | refine LeO.ite ?_ ?_
      | refine LeO.bind ?_ (fun _ => ?_)
    · intro y0 y1
      unfold script_digit.j1
      repeat' first
      | (with_reducible exact ih0 _ _)
      | (with_reducible exact ih1 _ _)
      | (with_reducible exact LeO.refl _)
      | (with_reducible exact LeO.none _)
      | (with_reducible refine LeO.ite ?_ ?_)
      | (with_reducible refine LeO.bind ?_ (fun _ => ?_))
      | exact ih0 _ _
      | exact ih1 _ _
      | exact LeO.none _
      | refine LeO.ite ?_ ?_
      | refine LeO.bind ?_ (fun _ => ?_)
theorem script_digit.mono : ∀ a0 k, LeO (script_digit.f k a0) (script_digit.f (k + 1) a0) := by
  intro a0 k
  obtain ⟨ih0, ih1⟩ := script_digit.mono_l k
  unfold script_digit.f
  repeat' first
      | (with_reducible exact ih0 _ _)
      | (with_reducible exact ih1 _ _)
      | (with_reducible exact LeO.refl _)
      | (with_reducible exact LeO.none _)
      | (with_reducible refine LeO.ite ?_ ?_)
      | (with_reducible refine LeO.bind ?_ (fun _ => ?_))
      | exact ih0 _ _
      | exact ih1 _ _
      | exact LeO.none _
      | refine LeO.ite ?_ ?_
      | refine LeO.bind ?_ (fun _ => ?_)
set_option maxHeartbeats 8000000 in
set_option maxRecDepth 100000 in
theorem script_digit.calls (k : Nat) (a0 : Int) (r1 : Int) (r2 : Bool) (w : World) (h : script_digit.f k a0 = some (r1, r2)) :
    Calls Try.prog 46 #[.int .u8 a0] w fun e w' => e = .returned (.tuple #[.int .u8 r1, .bool r2]) ∧ Drawn0 w w' := by
  have H : (if a0 ≥ 48 then (script_digit.j0 k a0 (decide (a0 ≤ 57))) else (script_digit.j0 k a0 false)) = some (r1, r2) := h
  clear h
  have HC2 := Aside0.mk H
  clear H
  go_enter Try.func46, Try.ntmps46
  go_upto_region 1 with (fail)
  go_cut [4] (fun v4 wc => ∃ (kq : Nat) (x4_1 : Bool), v4 = .bool x4_1 ∧ Aside0 (script_digit.j0 kq a0 x4_1 = some (r1, r2)) ∧ Aside0 (kq ≤ k) ∧ Drawn0 w wc)
  case first =>
    have H := HC2.out
    clear HC2
    by_cases c3 : a0 ≥ 48
    · rw [if_pos c3] at H
      have c3b0 : decide (48 ≤ a0) = true := decide_eq_true c3
      clear c3
      (first | rw [c3b0] | (simp only [i64_w, i32_w]; rw [c3b0]) | skip)
      have H' := Aside0.mk H
      clear H
      go_wp2
      go_meet
      case rel => exact ⟨_, (decide (a0 ≤ 57)), (by first | rfl | (simp; done) | (simp [*]; done)), H', ⟨by first | omega | exact Nat.le_refl _⟩, by repeat (first | exact Drawn0.refl _ | apply Drawn0.step)⟩
    · rw [if_neg c3] at H
      have c3b0 : decide (48 ≤ a0) = false := decide_eq_false c3
      clear c3
      (first | rw [c3b0] | (simp only [i64_w, i32_w]; rw [c3b0]) | skip)
      have H' := Aside0.mk H
      clear H
      go_wp2
      go_meet
      case rel => exact ⟨_, (false), (by first | rfl | (simp; done) | (simp [*]; done)), H', ⟨by first | omega | exact Nat.le_refl _⟩, by repeat (first | exact Drawn0.refl _ | apply Drawn0.step)⟩
  case rest =>
    clear HC2
    try clear p2
    try clear c3
    try clear c3b0
    obtain ⟨kq, x4_1, rfl, HA, HJ1, ⟨mc1, rfl⟩⟩ := hcut
    cases kq with
    | zero => exact absurd HA.out (by simp [script_digit.j0])
    | succ kj1 =>
      have H := HA.out
      clear HA
      simp only [script_digit.j0] at H
      by_cases c4 : x4_1 = true
      · subst c4
        have H1 : (some ((a0 - 48) % 256, true)) = some (r1, r2) := by rw [if_pos rfl] at H; exact H
        clear H
        have H := H1
        clear H1
        simp only [Option.some.injEq, Prod.mk.injEq] at H
        obtain ⟨rfl, rfl⟩ := H
        go_wp2
        go_ret2
        exact ⟨by first | rfl | (simp; done) | (simp [*]; done), by repeat (first | exact Drawn0.refl _ | apply Drawn0.step)⟩
      · replace c4 := Bool.eq_false_iff.mpr c4
        subst c4
        have H1 : (if a0 ≥ 65 then (script_digit.j1 kj1 a0 (decide (a0 ≤ 70))) else (script_digit.j1 kj1 a0 false)) = some (r1, r2) := by rw [if_neg (show ¬ (false = true) by decide)] at H; exact H
        clear H
        have H := H1
        clear H1
        have HC5 := Aside0.mk H
        clear H
        go_upto_region 3 with (fail)
        go_cut [13] (fun v13 wc => ∃ (kq : Nat) (x13_4 : Bool), v13 = .bool x13_4 ∧ Aside0 (script_digit.j1 kq a0 x13_4 = some (r1, r2)) ∧ Aside0 (kq ≤ kj1) ∧ Drawn0 w wc)
        case first =>
          have H := HC5.out
          clear HC5
          by_cases c6 : a0 ≥ 65
          · rw [if_pos c6] at H
            have c6b0 : decide (65 ≤ a0) = true := decide_eq_true c6
            clear c6
            (first | rw [c6b0] | (simp only [i64_w, i32_w]; rw [c6b0]) | skip)
            have H' := Aside0.mk H
            clear H
            go_wp2
            go_meet
            case rel => exact ⟨_, (decide (a0 ≤ 70)), (by first | rfl | (simp; done) | (simp [*]; done)), H', ⟨by have := HJ1.out; first | omega | exact Nat.le_refl _⟩, by repeat (first | exact Drawn0.refl _ | apply Drawn0.step)⟩
          · rw [if_neg c6] at H
            have c6b0 : decide (65 ≤ a0) = false := decide_eq_false c6
            clear c6
            (first | rw [c6b0] | (simp only [i64_w, i32_w]; rw [c6b0]) | skip)
            have H' := Aside0.mk H
            clear H
            go_wp2
            go_meet
            case rel => exact ⟨_, (false), (by first | rfl | (simp; done) | (simp [*]; done)), H', ⟨by have := HJ1.out; first | omega | exact Nat.le_refl _⟩, by repeat (first | exact Drawn0.refl _ | apply Drawn0.step)⟩
        case rest =>
          clear HC5
          try clear c1
          try clear p2
          try clear c3
          try clear c3b0
          try clear c4
          try clear c6
          try clear c6b0
          try clear p2
          obtain ⟨kq, x13_4, rfl, HA, HJ4, ⟨mc4, rfl⟩⟩ := hcut
          cases kq with
          | zero => exact absurd HA.out (by simp [script_digit.j1])
          | succ kj4 =>
            have H := HA.out
            clear HA
            simp only [script_digit.j1] at H
            by_cases c7 : x13_4 = true
            · subst c7
              have H1 : (some ((((a0 - 65) % 256) + 10) % 256, true)) = some (r1, r2) := by rw [if_pos rfl] at H; exact H
              clear H
              have H := H1
              clear H1
              simp only [Option.some.injEq, Prod.mk.injEq] at H
              obtain ⟨rfl, rfl⟩ := H
              go_wp2
              go_ret2
              exact ⟨by first | rfl | (simp; done) | (simp [*]; done), by repeat (first | exact Drawn0.refl _ | apply Drawn0.step)⟩
            · replace c7 := Bool.eq_false_iff.mpr c7
              subst c7
              have H1 : (if a0 ≥ 97 then (if a0 ≤ 102 then (some ((((a0 - 97) % 256) + 10) % 256, true)) else (some (0, false))) else (some (0, false))) = some (r1, r2) := by rw [if_neg (show ¬ (false = true) by decide)] at H; exact H
              clear H
              have H := H1
              clear H1
              by_cases c8 : a0 ≥ 97
              · rw [if_pos c8] at H
                have c8b0 : decide (97 ≤ a0) = true := decide_eq_true c8
                clear c8
                by_cases c9 : a0 ≤ 102
                · rw [if_pos c9] at H
                  have c9b0 : decide (a0 ≤ 102) = true := decide_eq_true c9
                  clear c9
                  simp only [Option.some.injEq, Prod.mk.injEq] at H
                  obtain ⟨rfl, rfl⟩ := H
                  go_wp2
                  go_ret2
                  exact ⟨by first | rfl | (simp; done) | (simp [*]; done), by repeat (first | exact Drawn0.refl _ | apply Drawn0.step)⟩
                · rw [if_neg c9] at H
                  have c9b0 : decide (a0 ≤ 102) = false := decide_eq_false c9
                  clear c9
                  simp only [Option.some.injEq, Prod.mk.injEq] at H
                  obtain ⟨rfl, rfl⟩ := H
                  go_wp2
                  go_ret2
                  exact ⟨by first | rfl | (simp; done) | (simp [*]; done), by repeat (first | exact Drawn0.refl _ | apply Drawn0.step)⟩
              · rw [if_neg c8] at H
                have c8b0 : decide (97 ≤ a0) = false := decide_eq_false c8
                clear c8
                simp only [Option.some.injEq, Prod.mk.injEq] at H
                obtain ⟨rfl, rfl⟩ := H
                go_wp2
                go_ret2
                exact ⟨by first | rfl | (simp; done) | (simp [*]; done), by repeat (first | exact Drawn0.refl _ | apply Drawn0.step)⟩

/-! ### script_Bytes: function 38 -/
mutual
def script_Bytes.j0 : Nat → ByteArray → Bool → Option (List Int × Bool)
  | 0, _, _ => none
  | k + 1, x0, x19 => if x19 = true then (some (([] : List Int), false)) else (script_Bytes.l0 k x0 ([] : List Int) 0)
def script_Bytes.l0 : Nat → ByteArray → List Int → Int → Option (List Int × Bool)
  | 0, _, _, _ => none
  | k + 1, x0, x4, x5 => if x5 < (x0.size : Int) then (if 0 ≤ x5 then ((script_digit.f k (bt x0 x5)).bind fun bt109 => (if 0 ≤ (wrap64 (x5 + 1)) then (if (wrap64 (x5 + 1)) < (x0.size : Int) then ((script_digit.f k (bt x0 (wrap64 (x5 + 1)))).bind fun bt111 => (if bt109.2 = true then (if bt111.2 = true then (if x4.length < 140737488355328 then (script_Bytes.l0 k x0 (x4 ++ [Go.bits .or .u8 ((bt109.1 * 16) % 256) bt111.1]) (wrap64 (x5 + 2))) else (none)) else (some (([] : List Int), false))) else (some (([] : List Int), false)))) else (none)) else (none))) else (none)) else (some (x4, true))
end
def script_Bytes.f (k : Nat) (a0 : ByteArray) : Option (List Int × Bool) := if a0.toList = ([45] : List UInt8) then (some (([] : List Int), true)) else (if a0.toList = ([] : List UInt8) then (script_Bytes.j0 k a0 true) else (script_Bytes.j0 k a0 (((a0.size : Int) % 2) != 0)))
theorem script_Bytes.mono_l : ∀ k, (∀ y0 y1, LeO (script_Bytes.j0 k y0 y1) (script_Bytes.j0 (k + 1) y0 y1)) ∧ (∀ y0 y1 y2, LeO (script_Bytes.l0 k y0 y1 y2) (script_Bytes.l0 (k + 1) y0 y1 y2))
  | 0 => ⟨fun _ _ r h => by simp [script_Bytes.j0] at h, fun _ _ _ r h => by simp [script_Bytes.l0] at h⟩
  | k + 1 => by
    obtain ⟨ih0, ih1⟩ := script_Bytes.mono_l k
    refine ⟨?_, ?_⟩
    · intro y0 y1
      unfold script_Bytes.j0
      repeat' first
      | (with_reducible exact ih0 _ _)
      | (with_reducible exact ih1 _ _ _)
      | (with_reducible exact script_digit.mono _ _)
      | (with_reducible exact LeO.refl _)
      | (with_reducible exact LeO.none _)
      | (with_reducible refine LeO.ite ?_ ?_)
      | (with_reducible refine LeO.bind ?_ (fun _ => ?_))
      | exact ih0 _ _
      | exact ih1 _ _ _
      | exact script_digit.mono _ _
      | exact LeO.none _
      | refine LeO.ite ?_ ?_
      | refine LeO.bind ?_ (fun _ => ?_)
    · intro y0 y1 y2
      unfold script_Bytes.l0
      repeat' first
      | (with_reducible exact ih0 _ _)
      | (with_reducible exact ih1 _ _ _)
      | (with_reducible exact script_digit.mono _ _)
      | (with_reducible exact LeO.refl _)
      | (with_reducible exact LeO.none _)
      | (with_reducible refine LeO.ite ?_ ?_)
      | (with_reducible refine LeO.bind ?_ (fun _ => ?_))
      | exact ih0 _ _
      | exact ih1 _ _ _
      | exact script_digit.mono _ _
      | exact LeO.none _
      | refine LeO.ite ?_ ?_
      | refine LeO.bind ?_ (fun _ => ?_)
theorem script_Bytes.mono : ∀ a0 k, LeO (script_Bytes.f k a0) (script_Bytes.f (k + 1) a0) := by
  intro a0 k
  obtain ⟨ih0, ih1⟩ := script_Bytes.mono_l k
  unfold script_Bytes.f
  repeat' first
      | (with_reducible exact ih0 _ _)
      | (with_reducible exact ih1 _ _ _)
      | (with_reducible exact script_digit.mono _ _)
      | (with_reducible exact LeO.refl _)
      | (with_reducible exact LeO.none _)
      | (with_reducible refine LeO.ite ?_ ?_)
      | (with_reducible refine LeO.bind ?_ (fun _ => ?_))
      | exact ih0 _ _
      | exact ih1 _ _ _
      | exact script_digit.mono _ _
      | exact LeO.none _
      | refine LeO.ite ?_ ?_
      | refine LeO.bind ?_ (fun _ => ?_)
set_option maxHeartbeats 8000000 in
set_option maxRecDepth 100000 in
theorem script_Bytes.calls (k : Nat) (a0 : ByteArray) (r1 : List Int) (r2 : Bool) (w : World) (h : script_Bytes.f k a0 = some (r1, r2)) :
    Calls Try.prog 38 #[.string a0] w fun e w' => ∃ v0_ : Value, e = .returned (.tuple #[v0_, .bool r2]) ∧ Kd.R (Kd.int .u8) 5 w' w.heap.size (fun _ => True) v0_ r1 ∧ Below w.heap.size w w' := by
  have HB := Aside0.mk (Below.refl w.heap.size w)
  have H : (if a0.toList = ([45] : List UInt8) then (some (([] : List Int), true)) else (if a0.toList = ([] : List UInt8) then (script_Bytes.j0 k a0 true) else (script_Bytes.j0 k a0 (((a0.size : Int) % 2) != 0)))) = some (r1, r2) := h
  clear h
  by_cases c2 : a0.toList = ([45] : List UInt8)
  · rw [if_pos c2] at H
    have c2b0 : (a0.toList == ([45] : List UInt8)) = true := beq_iff_eq.mpr c2
    have c2b1 : (a0.toList != ([45] : List UInt8)) = false := bne_eq_false_iff_eq.mpr c2
    clear c2
    simp only [Option.some.injEq, Prod.mk.injEq] at H
    obtain ⟨rfl, rfl⟩ := H
    go_enter Try.func38, Try.ntmps38
    go_wp2
    go_ret2
    exact ⟨_, by first | rfl | (simp [errW_none, errW_some] <;> rfl) | (simp [*, errW_none, errW_some] <;> rfl), by first | exact Kd.R_nil _ _ _ _ _ | exact Kd.N_nil _ _ _ _ _ | exact Kd.V_nil _ _ _ _ _ | exact Kd.Q_nil _ _ _ _ _ | exact Kd.S_nil _ _ _ _ _, by repeat (first | (with_reducible first | exact HB.out | apply below_alloc | apply pw_below_drewN | apply below_drew1) | exact HB.out)⟩
  · rw [if_neg c2] at H
    have c2b0 : (a0.toList == ([45] : List UInt8)) = false := beq_eq_false_iff_ne.mpr c2
    have c2b1 : (a0.toList != ([45] : List UInt8)) = true := bne_iff_ne.mpr c2
    have HC3 := Aside0.mk H
    clear H
    go_enter Try.func38, Try.ntmps38
    go_upto_region 3 with (fail)
    go_cut [19] (fun v19 wc => ∃ (kq : Nat) (x19_2 : Bool), v19 = .bool x19_2 ∧ Aside0 (script_Bytes.j0 kq a0 x19_2 = some (r1, r2)) ∧ Aside0 (kq ≤ k) ∧ Aside0 (Below w.heap.size w wc))
    case first =>
      have H := HC3.out
      clear HC3
      by_cases c4 : a0.toList = ([] : List UInt8)
      · rw [if_pos c4] at H
        have c4b0 : (a0.toList == ([] : List UInt8)) = true := beq_iff_eq.mpr c4
        have c4b1 : (a0.toList != ([] : List UInt8)) = false := bne_eq_false_iff_eq.mpr c4
        clear c4
        (first | rw [c4b0] | (simp only [i64_w, i32_w]; rw [c4b0]) | skip)
        have H' := Aside0.mk H
        clear H
        go_wp2
        go_meet
        case rel => exact ⟨_, (true), (by first | rfl | (simp; done) | (simp [*]; done)), H', ⟨by first | omega | exact Nat.le_refl _⟩, ⟨by repeat (first | (with_reducible first | exact HB.out | apply below_alloc | apply pw_below_drewN | apply below_drew1) | exact HB.out)⟩⟩
      · rw [if_neg c4] at H
        have c4b0 : (a0.toList == ([] : List UInt8)) = false := beq_eq_false_iff_ne.mpr c4
        have c4b1 : (a0.toList != ([] : List UInt8)) = true := bne_iff_ne.mpr c4
        (first | rw [c4b0] | (simp only [i64_w, i32_w]; rw [c4b0]) | skip)
        have H' := Aside0.mk H
        clear H
        go_wp2
        go_meet
        case rel => exact ⟨_, ((((a0.size : Int) % 2) != 0)), (by first | rfl | (simp; done) | (simp [*]; done)), H', ⟨by first | omega | exact Nat.le_refl _⟩, ⟨by repeat (first | (with_reducible first | exact HB.out | apply below_alloc | apply pw_below_drewN | apply below_drew1) | exact HB.out)⟩⟩
    case rest =>
      clear HC3
      try clear c2
      try clear c2b0
      try clear c2b1
      try clear p2
      try clear c3
      try clear c4
      try clear c4b0
      try clear c4b1
      obtain ⟨kq, x19_2, rfl, HA, HJ2, HB⟩ := hcut
      cases kq with
      | zero => exact absurd HA.out (by simp [script_Bytes.j0])
      | succ kj2 =>
        have H := HA.out
        clear HA
        simp only [script_Bytes.j0] at H
        by_cases c5 : x19_2 = true
        · subst c5
          have H1 : (some (([] : List Int), false)) = some (r1, r2) := by rw [if_pos rfl] at H; exact H
          clear H
          have H := H1
          clear H1
          simp only [Option.some.injEq, Prod.mk.injEq] at H
          obtain ⟨rfl, rfl⟩ := H
          go_wp2
          go_ret2
          exact ⟨_, by first | rfl | (simp [errW_none, errW_some] <;> rfl) | (simp [*, errW_none, errW_some] <;> rfl), by first | exact Kd.R_nil _ _ _ _ _ | exact Kd.N_nil _ _ _ _ _ | exact Kd.V_nil _ _ _ _ _ | exact Kd.Q_nil _ _ _ _ _ | exact Kd.S_nil _ _ _ _ _, by repeat (first | (with_reducible first | exact HB.out | apply below_alloc | apply pw_below_drewN | apply below_drew1) | exact HB.out)⟩
        · replace c5 := Bool.eq_false_iff.mpr c5
          subst c5
          have H1 : (script_Bytes.l0 kj2 a0 ([] : List Int) 0) = some (r1, r2) := by rw [if_neg (show ¬ (false = true) by decide)] at H; exact H
          clear H
          have H := H1
          clear H1
          have H' := Aside0.mk H
          clear H
          go_wp2
          go_loopg [4, 5] kj2 (fun kq v4 v5 w' => ∃ (x4_2 : List Int) (x5_2 : Int), v5 = .int .i64 x5_2 ∧ Aside0 (script_Bytes.l0 kq a0 x4_2 x5_2 = some (r1, r2)) ∧ Aside0 (kq ≤ kj2) ∧ Aside0 (Kd.R (Kd.int .u8) 5 w' w.heap.size (fun _ => True) v4 x4_2) ∧ Aside0 (Below w.heap.size w w'))
          case atStart => exact ⟨(([] : List Int)), (0), (by first | rfl | (simp; done) | (simp [*]; done)), H', ⟨Nat.le_refl _⟩, ⟨by first | exact Kd.R_nil _ _ _ _ _ | exact Kd.N_nil _ _ _ _ _ | exact Kd.V_nil _ _ _ _ _ | exact Kd.Q_nil _ _ _ _ _ | exact Kd.S_nil _ _ _ _ _⟩, ⟨by repeat (first | (with_reducible first | exact HB.out | apply below_alloc | apply pw_below_drewN | apply below_drew1) | exact HB.out)⟩⟩
          case round =>
            clear H'
            try clear c2
            try clear c2b0
            try clear c2b1
            try clear p2
            try clear c3
            try clear c4
            try clear c4b0
            try clear c4b1
            try clear c5
            try clear p2
            obtain ⟨x4_2, x5_2, rfl, HA, HK2, HO_4, HB⟩ := hrel
            cases gk with
            | zero => exact absurd HA.out (by simp [script_Bytes.l0])
            | succ k2 =>
              have H := HA.out
              clear HA
              simp only [script_Bytes.l0] at H
              by_cases c6 : x5_2 < (a0.size : Int)
              · rw [if_pos c6] at H
                have c6b0 : decide (x5_2 < (a0.size : Int)) = true := decide_eq_true c6
                clear c6
                by_cases c7 : 0 ≤ x5_2
                · rw [if_pos c7] at H
                  have c7b0 : decide (0 ≤ x5_2) = true := decide_eq_true c7
                  clear c7
                  replace H := Option.bind_eq_some_iff.mp H
                  obtain ⟨⟨t109, t110⟩, A90, H⟩ := H
                  replace H : (if 0 ≤ (wrap64 (x5_2 + 1)) then (if (wrap64 (x5_2 + 1)) < (a0.size : Int) then ((script_digit.f k2 (bt a0 (wrap64 (x5_2 + 1)))).bind fun bt111 => (if t110 = true then (if bt111.2 = true then (if x4_2.length < 140737488355328 then (script_Bytes.l0 k2 a0 (x4_2 ++ [Go.bits .or .u8 ((t109 * 16) % 256) bt111.1]) (wrap64 (x5_2 + 2))) else (none)) else (some (([] : List Int), false))) else (some (([] : List Int), false)))) else (none)) else (none)) = some (r1, r2) := H
                  have A9 := Aside0.mk A90
                  clear A90
                  obtain ⟨ji10, hji10⟩ : ∃ j_ : Int, (wrap64 (x5_2 + 1)) = j_ := ⟨_, rfl⟩
                  replace H : (if 0 ≤ (ji10) then (if (ji10) < (a0.size : Int) then ((script_digit.f k2 (bt a0 (ji10))).bind fun bt111 => (if t110 = true then (if bt111.2 = true then (if x4_2.length < 140737488355328 then (script_Bytes.l0 k2 a0 (x4_2 ++ [Go.bits .or .u8 ((t109 * 16) % 256) bt111.1]) (wrap64 (x5_2 + 2))) else (none)) else (some (([] : List Int), false))) else (some (([] : List Int), false)))) else (none)) else (none)) = some (r1, r2) := by first | (rw [hji10] at H; exact H) | (simp only [hji10] at H ⊢; exact H)
                  (try rw [hji10] at A9)
                  have hji10w : (IntKind.i64.wrap (x5_2 + 1)) = ji10 := (i64_w _).trans hji10
                  by_cases c11 : 0 ≤ (ji10)
                  · rw [if_pos c11] at H
                    have c11b0 : decide (0 ≤ (ji10)) = true := decide_eq_true c11
                    clear c11
                    by_cases c12 : (ji10) < (a0.size : Int)
                    · rw [if_pos c12] at H
                      have c12b0 : decide ((ji10) < (a0.size : Int)) = true := decide_eq_true c12
                      clear c12
                      replace H := Option.bind_eq_some_iff.mp H
                      obtain ⟨⟨t111, t112⟩, A140, H⟩ := H
                      replace H : (if t110 = true then (if t112 = true then (if x4_2.length < 140737488355328 then (script_Bytes.l0 k2 a0 (x4_2 ++ [Go.bits .or .u8 ((t109 * 16) % 256) t111]) (wrap64 (x5_2 + 2))) else (none)) else (some (([] : List Int), false))) else (some (([] : List Int), false))) = some (r1, r2) := H
                      have A14 := Aside0.mk A140
                      clear A140
                      by_cases c15 : t110 = true
                      · subst c15
                        have H1 : (if t112 = true then (if x4_2.length < 140737488355328 then (script_Bytes.l0 k2 a0 (x4_2 ++ [Go.bits .or .u8 ((t109 * 16) % 256) t111]) (wrap64 (x5_2 + 2))) else (none)) else (some (([] : List Int), false))) = some (r1, r2) := by rw [if_pos rfl] at H; exact H
                        clear H
                        have H := H1
                        clear H1
                        by_cases c16 : t112 = true
                        · subst c16
                          have H1 : (if x4_2.length < 140737488355328 then (script_Bytes.l0 k2 a0 (x4_2 ++ [Go.bits .or .u8 ((t109 * 16) % 256) t111]) (wrap64 (x5_2 + 2))) else (none)) = some (r1, r2) := by rw [if_pos rfl] at H; exact H
                          clear H
                          have H := H1
                          clear H1
                          by_cases c17 : x4_2.length < 140737488355328
                          · rw [if_pos c17] at H
                            have LMc17 := Aside0.mk c17
                            clear c17
                            obtain ⟨y113, hy113⟩ : ∃ y_ : List Int, y_ = (x4_2 ++ [Go.bits .or .u8 ((t109 * 16) % 256) t111]) := ⟨_, rfl⟩
                            replace H : (script_Bytes.l0 k2 a0 y113 (wrap64 (x5_2 + 2))) = some (r1, r2) := by first | (rw [hy113]; with_reducible exact H) | (have H2_ := (Option.bind_some _ _).symm.trans H; rw [hy113]; with_reducible exact H2_) | (have H2_ := (Option.bind_some _ _).symm.trans H; with_reducible exact H2_) | with_reducible exact H | (rw [hy113]; exact H) | exact H
                            have Ny113 := Aside0.mk hy113
                            clear hy113
                            have H' := Aside0.mk H
                            clear H
                            have p8 : 0 ≤ (x5_2 : Int) := of_decide_eq_true (by first | (with_reducible assumption) | assumption)
                            have q8 : x5_2 < (a0.size : Int) := of_decide_eq_true (by first | (with_reducible assumption) | assumption)
                            have hx8 := bt_at a0 x5_2
                            replace p8 := eq_true p8
                            replace q8 := eq_true q8
                            go_wp2_with (first | ((with_reducible refine gate_callee (f := 46) rfl ?_); refine goesL_ (some 30) rfl rfl Try.func46 (by kernel_rfl) rfl #[.int .u8 (bt a0 x5_2)] rfl (by (try simp only [List.map_toArray, List.map_cons, List.map_nil]); first | done | rfl | (simp only [List.length_drop, List.length_take]; rfl)) ?_; (with_reducible refine (script_digit.calls k2 (bt a0 x5_2) t109 true _ A9.out).mono ?_); rintro e w' ⟨rfl, ⟨nd, rfl⟩⟩; refine ⟨_, rfl, ?_⟩; have p13 : 0 ≤ ((ji10) : Int) := of_decide_eq_true (by first | (with_reducible assumption) | assumption); have q13 : (ji10) < (a0.size : Int) := of_decide_eq_true (by first | (with_reducible assumption) | assumption); have hx13 := bt_at a0 (ji10); replace p13 := eq_true p13; replace q13 := eq_true q13) | ((with_reducible refine gate_callee (f := 46) rfl ?_); refine goesL_ (some 38) rfl rfl Try.func46 (by kernel_rfl) rfl #[.int .u8 (bt a0 (ji10))] rfl (by (try simp only [List.map_toArray, List.map_cons, List.map_nil]); first | done | (simp only [hji10]; rfl) | rfl | (simp only [List.length_drop, List.length_take]; rfl)) ?_; (with_reducible refine (script_digit.calls k2 (bt a0 (ji10)) t111 true _ A14.out).mono ?_); rintro e w' ⟨rfl, ⟨nd, rfl⟩⟩; refine ⟨_, rfl, ?_⟩) | ((with_reducible refine gate_builtin (b := .append) (xs := #[.tmp 47, .tmp 52]) rfl ?_); (try (refine gate_guard (by rfl) ?_; dsimp only)); at_builtin; refine Kd.R_append (Kd.int .u8) (w0 := w) w.heap.size rfl (.tmp 47) (.tmp 52) 31 5 (.int .u8 0) 1 rfl Try.underlying31 info5 rfl (by decide) (by omega) u4 x4_2 (Go.bits .or .u8 ((t109 * 16) % 256) t111) [.int .u8 (Go.bits .or .u8 ((t109 * 16) % 256) t111)] (fun _ => True) (fun _ => False) rfl rfl ?aP (fun _ hk => hk.elim) ?aF ?aO ?aB ?aS ?aL ?_; (case aP => exact rfl); (case aB => exact (by repeat (first | (with_reducible first | exact HB.out | apply below_alloc | apply pw_below_drewN | apply below_drew1) | exact HB.out))); (case aF => exact (fun _ _ => trivial)); (case aO => exact (by (with_reducible repeat (first | apply Kd.R_alloc | apply Kd.R_drewN | apply Kd.R_drew)); exact HO_4.out)); (case aS => exact (below_size (by repeat (first | (with_reducible first | exact HB.out | apply below_alloc | apply pw_below_drewN | apply below_drew1) | exact HB.out)))); (case aL => have := LMc17.out; omega); intro v114 w18 ho hb hg hat; rw [← Ny113.out] at ho; have n0_ := Aside0.mk (hb); have n1_ := Aside0.mk (ho); clear HB; clear HO_4; have HB := n0_; have HO115 := n1_; clear n0_ n1_; clear ho hb hg hat))
                            go_roundg k2
                            case measure => have := HJ2.out; have := HK2.out; omega
                            case rel => exact ⟨(y113), (wrap64 (x5_2 + 2)), (by first | rfl | (simp; done) | (simp [*]; done)), H', ⟨by have := HJ2.out; have := HK2.out; omega⟩, ⟨by (with_reducible repeat (first | apply Kd.R_alloc | apply Kd.R_drewN | apply Kd.R_drew)); exact HO115.out⟩, ⟨by repeat (first | (with_reducible first | exact HB.out | apply below_alloc | apply pw_below_drewN | apply below_drew1) | exact HB.out)⟩⟩
                          · rw [if_neg c17] at H
                            exact absurd H (by simp)
                        · replace c16 := Bool.eq_false_iff.mpr c16
                          subst c16
                          have H1 : (some (([] : List Int), false)) = some (r1, r2) := by rw [if_neg (show ¬ (false = true) by decide)] at H; exact H
                          clear H
                          have H := H1
                          clear H1
                          simp only [Option.some.injEq, Prod.mk.injEq] at H
                          obtain ⟨rfl, rfl⟩ := H
                          have p8 : 0 ≤ (x5_2 : Int) := of_decide_eq_true (by first | (with_reducible assumption) | assumption)
                          have q8 : x5_2 < (a0.size : Int) := of_decide_eq_true (by first | (with_reducible assumption) | assumption)
                          have hx8 := bt_at a0 x5_2
                          replace p8 := eq_true p8
                          replace q8 := eq_true q8
                          go_wp2_with (first | ((with_reducible refine gate_callee (f := 46) rfl ?_); refine goesL_ (some 30) rfl rfl Try.func46 (by kernel_rfl) rfl #[.int .u8 (bt a0 x5_2)] rfl (by (try simp only [List.map_toArray, List.map_cons, List.map_nil]); first | done | rfl | (simp only [List.length_drop, List.length_take]; rfl)) ?_; (with_reducible refine (script_digit.calls k2 (bt a0 x5_2) t109 true _ A9.out).mono ?_); rintro e w' ⟨rfl, ⟨nd, rfl⟩⟩; refine ⟨_, rfl, ?_⟩; have p13 : 0 ≤ ((ji10) : Int) := of_decide_eq_true (by first | (with_reducible assumption) | assumption); have q13 : (ji10) < (a0.size : Int) := of_decide_eq_true (by first | (with_reducible assumption) | assumption); have hx13 := bt_at a0 (ji10); replace p13 := eq_true p13; replace q13 := eq_true q13) | ((with_reducible refine gate_callee (f := 46) rfl ?_); refine goesL_ (some 38) rfl rfl Try.func46 (by kernel_rfl) rfl #[.int .u8 (bt a0 (ji10))] rfl (by (try simp only [List.map_toArray, List.map_cons, List.map_nil]); first | done | (simp only [hji10]; rfl) | rfl | (simp only [List.length_drop, List.length_take]; rfl)) ?_; (with_reducible refine (script_digit.calls k2 (bt a0 (ji10)) t111 false _ A14.out).mono ?_); rintro e w' ⟨rfl, ⟨nd, rfl⟩⟩; refine ⟨_, rfl, ?_⟩))
                          go_ret2
                          exact ⟨_, by first | rfl | (simp [errW_none, errW_some] <;> rfl) | (simp only [← hji10]; first | rfl | (simp [errW_none, errW_some] <;> rfl)) | (simp [*, errW_none, errW_some] <;> rfl), by first | exact Kd.R_nil _ _ _ _ _ | exact Kd.N_nil _ _ _ _ _ | exact Kd.V_nil _ _ _ _ _ | exact Kd.Q_nil _ _ _ _ _ | exact Kd.S_nil _ _ _ _ _, by repeat (first | (with_reducible first | exact HB.out | apply below_alloc | apply pw_below_drewN | apply below_drew1) | exact HB.out)⟩
                      · replace c15 := Bool.eq_false_iff.mpr c15
                        subst c15
                        have H1 : (some (([] : List Int), false)) = some (r1, r2) := by rw [if_neg (show ¬ (false = true) by decide)] at H; exact H
                        clear H
                        have H := H1
                        clear H1
                        simp only [Option.some.injEq, Prod.mk.injEq] at H
                        obtain ⟨rfl, rfl⟩ := H
                        have p8 : 0 ≤ (x5_2 : Int) := of_decide_eq_true (by first | (with_reducible assumption) | assumption)
                        have q8 : x5_2 < (a0.size : Int) := of_decide_eq_true (by first | (with_reducible assumption) | assumption)
                        have hx8 := bt_at a0 x5_2
                        replace p8 := eq_true p8
                        replace q8 := eq_true q8
                        go_wp2_with (first | ((with_reducible refine gate_callee (f := 46) rfl ?_); refine goesL_ (some 30) rfl rfl Try.func46 (by kernel_rfl) rfl #[.int .u8 (bt a0 x5_2)] rfl (by (try simp only [List.map_toArray, List.map_cons, List.map_nil]); first | done | rfl | (simp only [List.length_drop, List.length_take]; rfl)) ?_; (with_reducible refine (script_digit.calls k2 (bt a0 x5_2) t109 false _ A9.out).mono ?_); rintro e w' ⟨rfl, ⟨nd, rfl⟩⟩; refine ⟨_, rfl, ?_⟩; have p13 : 0 ≤ ((ji10) : Int) := of_decide_eq_true (by first | (with_reducible assumption) | assumption); have q13 : (ji10) < (a0.size : Int) := of_decide_eq_true (by first | (with_reducible assumption) | assumption); have hx13 := bt_at a0 (ji10); replace p13 := eq_true p13; replace q13 := eq_true q13) | ((with_reducible refine gate_callee (f := 46) rfl ?_); refine goesL_ (some 38) rfl rfl Try.func46 (by kernel_rfl) rfl #[.int .u8 (bt a0 (ji10))] rfl (by (try simp only [List.map_toArray, List.map_cons, List.map_nil]); first | done | (simp only [hji10]; rfl) | rfl | (simp only [List.length_drop, List.length_take]; rfl)) ?_; (with_reducible refine (script_digit.calls k2 (bt a0 (ji10)) t111 t112 _ A14.out).mono ?_); rintro e w' ⟨rfl, ⟨nd, rfl⟩⟩; refine ⟨_, rfl, ?_⟩))
                        go_ret2
                        exact ⟨_, by first | rfl | (simp [errW_none, errW_some] <;> rfl) | (simp only [← hji10]; first | rfl | (simp [errW_none, errW_some] <;> rfl)) | (simp [*, errW_none, errW_some] <;> rfl), by first | exact Kd.R_nil _ _ _ _ _ | exact Kd.N_nil _ _ _ _ _ | exact Kd.V_nil _ _ _ _ _ | exact Kd.Q_nil _ _ _ _ _ | exact Kd.S_nil _ _ _ _ _, by repeat (first | (with_reducible first | exact HB.out | apply below_alloc | apply pw_below_drewN | apply below_drew1) | exact HB.out)⟩
                    · rw [if_neg c12] at H
                      exact absurd H (by simp)
                  · rw [if_neg c11] at H
                    exact absurd H (by simp)
                · rw [if_neg c7] at H
                  exact absurd H (by simp)
              · rw [if_neg c6] at H
                have c6b0 : decide (x5_2 < (a0.size : Int)) = false := decide_eq_false c6
                clear c6
                simp only [Option.some.injEq, Prod.mk.injEq] at H
                obtain ⟨rfl, rfl⟩ := H
                go_wp2
                go_ret2
                exact ⟨_, by first | rfl | (simp [errW_none, errW_some] <;> rfl) | (simp [*, errW_none, errW_some] <;> rfl), by (with_reducible repeat (first | apply Kd.R_alloc | apply Kd.R_drewN | apply Kd.R_drew)); exact HO_4.out, by repeat (first | (with_reducible first | exact HB.out | apply below_alloc | apply pw_below_drewN | apply below_drew1) | exact HB.out)⟩

end Go.Proofs.Ytadhfojgifhjcaa.PScriptDigits
