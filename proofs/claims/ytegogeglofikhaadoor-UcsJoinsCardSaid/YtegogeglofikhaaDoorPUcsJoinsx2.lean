/- UcsJoins: what the functions answer, and their walks; what is not printed is given by YtegogeglofikhaaDoorGUcsJoins. Written by a program of ours over the print. -/
import Derived.Test.YtegogeglofikhaaDoorPUcsJoinsx0
namespace Go.Proofs.YtegogeglofikhaaDoor.PUcsJoins
open Go.RowKit Go.Proofs.YtegogeglofikhaaDoorW.PrintWords Go.Proofs.YtegogeglofikhaaDoorW.PrintLast Go.Proofs.YtegogeglofikhaaDoorW.PrintMore
attribute [local go_sem] max2_int min2_int max_two min_two max_three min_three max_four min_four   -- for this text's walks alone
set_option linter.unusedVariables false
set_option linter.unusedSimpArgs false

/-! ### dragomanref01_Scalar: function 20 -/
def dragomanref01_Scalar.f (a0 : Int) : Option (Bool) := if a0 ≥ 0 then (if a0 ≤ 1114111 then (if a0 < 55296 then (some true) else (some (decide (a0 > 57343)))) else (some false)) else (some false)
set_option maxHeartbeats 8000000 in
set_option maxRecDepth 100000 in
theorem dragomanref01_Scalar.calls (a0 : Int) (r : Bool) (w : World) (h : dragomanref01_Scalar.f a0 = some r) :
    Calls Tryd.prog 20 #[.int .i32 a0] w fun e w' => e = .returned (.bool r) ∧ Drawn0 w w' := by
  have H : (if a0 ≥ 0 then (if a0 ≤ 1114111 then (if a0 < 55296 then (some true) else (some (decide (a0 > 57343)))) else (some false)) else (some false)) = some r := h
  clear h
  by_cases c2 : a0 ≥ 0
  · rw [if_pos c2] at H
    have c2b0 : decide (0 ≤ a0) = true := decide_eq_true c2
    clear c2
    by_cases c3 : a0 ≤ 1114111
    · rw [if_pos c3] at H
      have c3b0 : decide (a0 ≤ 1114111) = true := decide_eq_true c3
      clear c3
      by_cases c4 : a0 < 55296
      · rw [if_pos c4] at H
        have c4b0 : decide (a0 < 55296) = true := decide_eq_true c4
        clear c4
        obtain rfl := Option.some.inj H
        go_enter Tryd.func20, Tryd.ntmps20
        go_wp2
        go_ret
        exact ⟨by first | rfl | (simp; done) | (simp [*]; done), by repeat (first | exact Drawn0.refl _ | apply Drawn0.step)⟩
      · rw [if_neg c4] at H
        have c4b0 : decide (a0 < 55296) = false := decide_eq_false c4
        clear c4
        obtain rfl := Option.some.inj H
        go_enter Tryd.func20, Tryd.ntmps20
        go_wp2
        go_ret
        exact ⟨by first | rfl | (simp; done) | (simp [*]; done), by repeat (first | exact Drawn0.refl _ | apply Drawn0.step)⟩
    · rw [if_neg c3] at H
      have c3b0 : decide (a0 ≤ 1114111) = false := decide_eq_false c3
      clear c3
      obtain rfl := Option.some.inj H
      go_enter Tryd.func20, Tryd.ntmps20
      go_wp2
      go_ret
      exact ⟨by first | rfl | (simp; done) | (simp [*]; done), by repeat (first | exact Drawn0.refl _ | apply Drawn0.step)⟩
  · rw [if_neg c2] at H
    have c2b0 : decide (0 ≤ a0) = false := decide_eq_false c2
    clear c2
    obtain rfl := Option.some.inj H
    go_enter Tryd.func20, Tryd.ntmps20
    go_wp2
    go_ret
    exact ⟨by first | rfl | (simp; done) | (simp [*]; done), by repeat (first | exact Drawn0.refl _ | apply Drawn0.step)⟩

/-! ### dragomanref01_Hex: function 24 -/
def dragomanref01_Hex.l0 : Nat → ByteArray → Int → Option (ByteArray)
  | 0, _, _ => none
  | k + 1, x3, x4 => if x4 > 0 then (if 0 ≤ (Int.tmod x4 16) then (if (Int.tmod x4 16) ≤ (wrap64 ((Int.tmod x4 16) + 1)) then (if (wrap64 ((Int.tmod x4 16) + 1)) ≤ 16 then (if ((⟨#[48, 49, 50, 51, 52, 53, 54, 55, 56, 57, 65, 66, 67, 68, 69, 70]⟩ : ByteArray).extract ((Int.tmod x4 16) : Int).toNat ((wrap64 ((Int.tmod x4 16) + 1)) : Int).toNat).size + x3.size ≤ 9223372036854775807 then (dragomanref01_Hex.l0 k (((⟨#[48, 49, 50, 51, 52, 53, 54, 55, 56, 57, 65, 66, 67, 68, 69, 70]⟩ : ByteArray).extract ((Int.tmod x4 16) : Int).toNat ((wrap64 ((Int.tmod x4 16) + 1)) : Int).toNat) ++ x3) (wrap64 (Int.tdiv x4 16))) else (none)) else (none)) else (none)) else (none)) else (if (x3.size : Int) < 4 then (if 0 ≤ (Int.tmod x4 16) then (if (Int.tmod x4 16) ≤ (wrap64 ((Int.tmod x4 16) + 1)) then (if (wrap64 ((Int.tmod x4 16) + 1)) ≤ 16 then (if ((⟨#[48, 49, 50, 51, 52, 53, 54, 55, 56, 57, 65, 66, 67, 68, 69, 70]⟩ : ByteArray).extract ((Int.tmod x4 16) : Int).toNat ((wrap64 ((Int.tmod x4 16) + 1)) : Int).toNat).size + x3.size ≤ 9223372036854775807 then (dragomanref01_Hex.l0 k (((⟨#[48, 49, 50, 51, 52, 53, 54, 55, 56, 57, 65, 66, 67, 68, 69, 70]⟩ : ByteArray).extract ((Int.tmod x4 16) : Int).toNat ((wrap64 ((Int.tmod x4 16) + 1)) : Int).toNat) ++ x3) (wrap64 (Int.tdiv x4 16))) else (none)) else (none)) else (none)) else (none)) else (if 2 + x3.size ≤ 9223372036854775807 then (some ((⟨#[85, 43]⟩ : ByteArray) ++ x3)) else (none)))
def dragomanref01_Hex.f (k : Nat) (a0 : Int) : Option (ByteArray) := (dragomanref01_Scalar.f a0).bind fun t168 => (if t168 = true then (dragomanref01_Hex.l0 k (⟨#[]⟩ : ByteArray) (wrap64 (a0))) else (some (⟨#[]⟩ : ByteArray)))
theorem dragomanref01_Hex.mono_l : ∀ k, (∀ y0 y1, LeO (dragomanref01_Hex.l0 k y0 y1) (dragomanref01_Hex.l0 (k + 1) y0 y1))
  | 0 => fun _ _ r h => by simp [dragomanref01_Hex.l0] at h
  | k + 1 => by
    have ih0 := dragomanref01_Hex.mono_l k
    · intro y0 y1
      unfold dragomanref01_Hex.l0
      repeat' first
      | (with_reducible exact ih0 _ _)
      | (with_reducible exact LeO.refl _)
      | (with_reducible exact LeO.none _)
      | (with_reducible refine LeO.ite ?_ ?_)
      | (with_reducible refine LeO.bind ?_ (fun _ => ?_))
      | exact ih0 _ _
      | exact LeO.none _
      | refine LeO.ite ?_ ?_
      | refine LeO.bind ?_ (fun _ => ?_)
theorem dragomanref01_Hex.mono : ∀ a0 k, LeO (dragomanref01_Hex.f k a0) (dragomanref01_Hex.f (k + 1) a0) := by
  intro a0 k
  have ih0 := dragomanref01_Hex.mono_l k
  unfold dragomanref01_Hex.f
  repeat' first
      | (with_reducible exact ih0 _ _)
      | (with_reducible exact LeO.refl _)
      | (with_reducible exact LeO.none _)
      | (with_reducible refine LeO.ite ?_ ?_)
      | (with_reducible refine LeO.bind ?_ (fun _ => ?_))
      | exact ih0 _ _
      | exact LeO.none _
      | refine LeO.ite ?_ ?_
      | refine LeO.bind ?_ (fun _ => ?_)
set_option maxHeartbeats 8000000 in
set_option maxRecDepth 100000 in
theorem dragomanref01_Hex.calls (k : Nat) (a0 : Int) (r : ByteArray) (w : World) (h : dragomanref01_Hex.f k a0 = some r) :
    Calls Tryd.prog 24 #[.int .i32 a0] w fun e w' => e = .returned (.string r) ∧ Drawn0 w w' := by
  have H : ((dragomanref01_Scalar.f a0).bind fun t168 => (if t168 = true then (dragomanref01_Hex.l0 k (⟨#[]⟩ : ByteArray) (wrap64 (a0))) else (some (⟨#[]⟩ : ByteArray)))) = some r := h
  clear h
  replace H := Option.bind_eq_some_iff.mp H
  obtain ⟨t168, A20, H⟩ := H
  replace H : (if t168 = true then (dragomanref01_Hex.l0 k (⟨#[]⟩ : ByteArray) (wrap64 (a0))) else (some (⟨#[]⟩ : ByteArray))) = some r := H
  have A2 := Aside0.mk A20
  clear A20
  by_cases c3 : t168 = true
  · subst c3
    have H1 : (dragomanref01_Hex.l0 k (⟨#[]⟩ : ByteArray) (wrap64 (a0))) = some r := by rw [if_pos rfl] at H; exact H
    clear H
    have H := H1
    clear H1
    have H' := Aside0.mk H
    clear H
    go_enter Tryd.func24, Tryd.ntmps24
    go_wp2_with (first | ((with_reducible refine gate_callee (f := 20) rfl ?_); refine goesL_ (some 6) rfl rfl Tryd.func20 (by kernel_rfl) rfl #[.int .i32 a0] rfl (by (try simp only [List.map_toArray, List.map_cons, List.map_nil]); first | done | rfl | (simp only [List.length_drop, List.length_take]; rfl)) ?_; (with_reducible refine (dragomanref01_Scalar.calls a0 true _ A2.out).mono ?_); rintro e w' ⟨rfl, ⟨nd, rfl⟩⟩; refine ⟨_, rfl, ?_⟩))
    go_loopg [3, 4] k (fun kq v3 v4 w' => ∃ (x3_1 : ByteArray) (x4_1 : Int), v3 = .string x3_1 ∧ v4 = .int .i64 x4_1 ∧ Aside0 (dragomanref01_Hex.l0 kq x3_1 x4_1 = some r) ∧ Aside0 (kq ≤ k) ∧ Drawn0 w w')
    case atStart => exact ⟨((⟨#[]⟩ : ByteArray)), (wrap64 (a0)), (by first | rfl | (simp; done) | (simp [*]; done)), (by first | rfl | (simp; done) | (simp [*]; done)), H', ⟨Nat.le_refl _⟩, by repeat (first | exact Drawn0.refl _ | apply Drawn0.step)⟩
    case round =>
      clear H'
      try clear c2
      try clear p2
      try clear c3
      obtain ⟨x3_1, x4_1, rfl, rfl, HA, HK1, ⟨m1, rfl⟩⟩ := hrel
      cases gk with
      | zero => exact absurd HA.out (by simp [dragomanref01_Hex.l0])
      | succ k1 =>
        have H := HA.out
        clear HA
        simp only [dragomanref01_Hex.l0] at H
        by_cases c4 : x4_1 > 0
        · rw [if_pos c4] at H
          have c4b0 : decide (0 < x4_1) = true := decide_eq_true c4
          clear c4
          obtain ⟨ji5, hji5⟩ : ∃ j_ : Int, (Int.tmod x4_1 16) = j_ := ⟨_, rfl⟩
          replace H : (if 0 ≤ (ji5) then (if (ji5) ≤ (wrap64 ((ji5) + 1)) then (if (wrap64 ((ji5) + 1)) ≤ 16 then (if ((⟨#[48, 49, 50, 51, 52, 53, 54, 55, 56, 57, 65, 66, 67, 68, 69, 70]⟩ : ByteArray).extract ((ji5) : Int).toNat ((wrap64 ((ji5) + 1)) : Int).toNat).size + x3_1.size ≤ 9223372036854775807 then (dragomanref01_Hex.l0 k1 (((⟨#[48, 49, 50, 51, 52, 53, 54, 55, 56, 57, 65, 66, 67, 68, 69, 70]⟩ : ByteArray).extract ((ji5) : Int).toNat ((wrap64 ((ji5) + 1)) : Int).toNat) ++ x3_1) (wrap64 (Int.tdiv x4_1 16))) else (none)) else (none)) else (none)) else (none)) = some r := by first | (rw [hji5] at H; exact H) | (simp only [hji5] at H ⊢; exact H)
          by_cases c6 : 0 ≤ (ji5)
          · rw [if_pos c6] at H
            have c6b0 := eq_true c6
            have c6b1 : decide (0 ≤ (ji5)) = true := decide_eq_true c6
            clear c6
            by_cases c7 : (ji5) ≤ (wrap64 ((ji5) + 1))
            · rw [if_pos c7] at H
              have c7b0 := eq_true c7
              have c7b1 : decide ((ji5) ≤ (wrap64 ((ji5) + 1))) = true := decide_eq_true c7
              by_cases c8 : (wrap64 ((ji5) + 1)) ≤ 16
              · rw [if_pos c8] at H
                have c8b0 := eq_true c8
                have c8b1 : decide ((wrap64 ((ji5) + 1)) ≤ 16) = true := decide_eq_true c8
                by_cases c9 : ((⟨#[48, 49, 50, 51, 52, 53, 54, 55, 56, 57, 65, 66, 67, 68, 69, 70]⟩ : ByteArray).extract ((ji5) : Int).toNat ((wrap64 ((ji5) + 1)) : Int).toNat).size + x3_1.size ≤ 9223372036854775807
                · rw [if_pos c9] at H
                  have c9b0 := eq_true c9
                  have c9b1 : decide (((⟨#[48, 49, 50, 51, 52, 53, 54, 55, 56, 57, 65, 66, 67, 68, 69, 70]⟩ : ByteArray).extract ((ji5) : Int).toNat ((wrap64 ((ji5) + 1)) : Int).toNat).size + x3_1.size ≤ 9223372036854775807) = true := decide_eq_true c9
                  try have c9b2 : (9223372036854775807 < ((⟨#[48, 49, 50, 51, 52, 53, 54, 55, 56, 57, 65, 66, 67, 68, 69, 70]⟩ : ByteArray).extract ((ji5) : Int).toNat ((wrap64 ((ji5) + 1)) : Int).toNat).size + x3_1.size) = False := eq_false (Nat.not_lt.2 c9)
                  have H' := Aside0.mk H
                  clear H
                  go_wp2
                  go_roundg k1
                  case measure => have := HK1.out; omega
                  case rel => exact ⟨(((⟨#[48, 49, 50, 51, 52, 53, 54, 55, 56, 57, 65, 66, 67, 68, 69, 70]⟩ : ByteArray).extract ((ji5) : Int).toNat ((wrap64 ((ji5) + 1)) : Int).toNat) ++ x3_1), (wrap64 (Int.tdiv x4_1 16)), (by first | rfl | (simp; done) | (simp only [← hji5] <;> (first | rfl | simp)) | (simp [*]; done)), (by first | rfl | (simp; done) | (simp [*]; done)), H', ⟨by have := HK1.out; omega⟩, by repeat (first | exact Drawn0.refl _ | apply Drawn0.step)⟩
                · rw [if_neg c9] at H
                  exact absurd H (by simp)
              · rw [if_neg c8] at H
                exact absurd H (by simp)
            · rw [if_neg c7] at H
              exact absurd H (by simp)
          · rw [if_neg c6] at H
            exact absurd H (by simp)
        · rw [if_neg c4] at H
          have c4b0 : decide (0 < x4_1) = false := decide_eq_false c4
          clear c4
          by_cases c10 : (x3_1.size : Int) < 4
          · rw [if_pos c10] at H
            have c10b0 : decide ((x3_1.size : Int) < 4) = true := decide_eq_true c10
            have c10b1 : decide (x3_1.size < 4) = true := decide_eq_true (by omega)
            clear c10
            obtain ⟨ji11, hji11⟩ : ∃ j_ : Int, (Int.tmod x4_1 16) = j_ := ⟨_, rfl⟩
            replace H : (if 0 ≤ (ji11) then (if (ji11) ≤ (wrap64 ((ji11) + 1)) then (if (wrap64 ((ji11) + 1)) ≤ 16 then (if ((⟨#[48, 49, 50, 51, 52, 53, 54, 55, 56, 57, 65, 66, 67, 68, 69, 70]⟩ : ByteArray).extract ((ji11) : Int).toNat ((wrap64 ((ji11) + 1)) : Int).toNat).size + x3_1.size ≤ 9223372036854775807 then (dragomanref01_Hex.l0 k1 (((⟨#[48, 49, 50, 51, 52, 53, 54, 55, 56, 57, 65, 66, 67, 68, 69, 70]⟩ : ByteArray).extract ((ji11) : Int).toNat ((wrap64 ((ji11) + 1)) : Int).toNat) ++ x3_1) (wrap64 (Int.tdiv x4_1 16))) else (none)) else (none)) else (none)) else (none)) = some r := by first | (rw [hji11] at H; exact H) | (simp only [hji11] at H ⊢; exact H)
            by_cases c12 : 0 ≤ (ji11)
            · rw [if_pos c12] at H
              have c12b0 := eq_true c12
              have c12b1 : decide (0 ≤ (ji11)) = true := decide_eq_true c12
              clear c12
              by_cases c13 : (ji11) ≤ (wrap64 ((ji11) + 1))
              · rw [if_pos c13] at H
                have c13b0 := eq_true c13
                have c13b1 : decide ((ji11) ≤ (wrap64 ((ji11) + 1))) = true := decide_eq_true c13
                by_cases c14 : (wrap64 ((ji11) + 1)) ≤ 16
                · rw [if_pos c14] at H
                  have c14b0 := eq_true c14
                  have c14b1 : decide ((wrap64 ((ji11) + 1)) ≤ 16) = true := decide_eq_true c14
                  by_cases c15 : ((⟨#[48, 49, 50, 51, 52, 53, 54, 55, 56, 57, 65, 66, 67, 68, 69, 70]⟩ : ByteArray).extract ((ji11) : Int).toNat ((wrap64 ((ji11) + 1)) : Int).toNat).size + x3_1.size ≤ 9223372036854775807
                  · rw [if_pos c15] at H
                    have c15b0 := eq_true c15
                    have c15b1 : decide (((⟨#[48, 49, 50, 51, 52, 53, 54, 55, 56, 57, 65, 66, 67, 68, 69, 70]⟩ : ByteArray).extract ((ji11) : Int).toNat ((wrap64 ((ji11) + 1)) : Int).toNat).size + x3_1.size ≤ 9223372036854775807) = true := decide_eq_true c15
                    try have c15b2 : (9223372036854775807 < ((⟨#[48, 49, 50, 51, 52, 53, 54, 55, 56, 57, 65, 66, 67, 68, 69, 70]⟩ : ByteArray).extract ((ji11) : Int).toNat ((wrap64 ((ji11) + 1)) : Int).toNat).size + x3_1.size) = False := eq_false (Nat.not_lt.2 c15)
                    have H' := Aside0.mk H
                    clear H
                    go_wp2
                    go_roundg k1
                    case measure => have := HK1.out; omega
                    case rel => exact ⟨(((⟨#[48, 49, 50, 51, 52, 53, 54, 55, 56, 57, 65, 66, 67, 68, 69, 70]⟩ : ByteArray).extract ((ji11) : Int).toNat ((wrap64 ((ji11) + 1)) : Int).toNat) ++ x3_1), (wrap64 (Int.tdiv x4_1 16)), (by first | rfl | (simp; done) | (simp only [← hji11] <;> (first | rfl | simp)) | (simp [*]; done)), (by first | rfl | (simp; done) | (simp [*]; done)), H', ⟨by have := HK1.out; omega⟩, by repeat (first | exact Drawn0.refl _ | apply Drawn0.step)⟩
                  · rw [if_neg c15] at H
                    exact absurd H (by simp)
                · rw [if_neg c14] at H
                  exact absurd H (by simp)
              · rw [if_neg c13] at H
                exact absurd H (by simp)
            · rw [if_neg c12] at H
              exact absurd H (by simp)
          · rw [if_neg c10] at H
            have c10b0 : decide ((x3_1.size : Int) < 4) = false := decide_eq_false c10
            have c10b1 : decide (x3_1.size < 4) = false := decide_eq_false (by omega)
            clear c10
            by_cases c16 : 2 + x3_1.size ≤ 9223372036854775807
            · rw [if_pos c16] at H
              have c16b0 := eq_true c16
              have c16b1 : decide (2 + x3_1.size ≤ 9223372036854775807) = true := decide_eq_true c16
              try have c16b2 : (9223372036854775807 < 2 + x3_1.size) = False := eq_false (Nat.not_lt.2 c16)
              obtain rfl := Option.some.inj H
              go_wp2
              go_ret
              exact ⟨by first | rfl | (simp; done) | (simp [*]; done), by repeat (first | exact Drawn0.refl _ | apply Drawn0.step)⟩
            · rw [if_neg c16] at H
              exact absurd H (by simp)
  · replace c3 := Bool.eq_false_iff.mpr c3
    subst c3
    have H1 : (some (⟨#[]⟩ : ByteArray)) = some r := by rw [if_neg (show ¬ (false = true) by decide)] at H; exact H
    clear H
    have H := H1
    clear H1
    obtain rfl := Option.some.inj H
    go_enter Tryd.func24, Tryd.ntmps24
    go_wp2_with (first | ((with_reducible refine gate_callee (f := 20) rfl ?_); refine goesL_ (some 6) rfl rfl Tryd.func20 (by kernel_rfl) rfl #[.int .i32 a0] rfl (by (try simp only [List.map_toArray, List.map_cons, List.map_nil]); first | done | rfl | (simp only [List.length_drop, List.length_take]; rfl)) ?_; (with_reducible refine (dragomanref01_Scalar.calls a0 false _ A2.out).mono ?_); rintro e w' ⟨rfl, ⟨nd, rfl⟩⟩; refine ⟨_, rfl, ?_⟩))
    go_ret
    exact ⟨by first | rfl | (simp; done) | (simp [*]; done), by repeat (first | exact Drawn0.refl _ | apply Drawn0.step)⟩

end Go.Proofs.YtegogeglofikhaaDoor.PUcsJoins
