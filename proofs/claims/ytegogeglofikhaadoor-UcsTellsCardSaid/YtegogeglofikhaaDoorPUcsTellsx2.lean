/- UcsTells: what the functions answer, and their walks; what is not printed is given by YtegogeglofikhaaDoorGUcsTells. Written by a program of ours over the print. -/
import Derived.Test.YtegogeglofikhaaDoorPUcsTellsx0
import Derived.Test.YtegogeglofikhaaDoorPUcsTellsx1
import Derived.Test.YtegogeglofikhaaDoorGUcsTells
namespace Go.Proofs.YtegogeglofikhaaDoor.PUcsTells
open Go.Proofs.YtegogeglofikhaaDoor
open Go.RowKit Go.Proofs.YtegogeglofikhaaDoorW.PrintWords Go.Proofs.YtegogeglofikhaaDoorW.PrintLast Go.Proofs.YtegogeglofikhaaDoorW.PrintMore
attribute [local go_sem] max2_int min2_int max_two min_two max_three min_three max_four min_four   -- for this text's walks alone
set_option linter.unusedVariables false
set_option linter.unusedSimpArgs false

/-! ### dragomanref01_Scalar: function 20 -/
def dragomanref01_Scalar.f (a0 : Int) : Option (Bool) := if a0 ≥ 0 then (if a0 ≤ 1114111 then (if a0 < 55296 then (some true) else (some (decide (a0 > 57343)))) else (some false)) else (some false)
set_option maxHeartbeats 8000000 in
set_option maxRecDepth 100000 in
theorem dragomanref01_Scalar.calls (a0 : Int) (r : Bool) (w : World) (h : dragomanref01_Scalar.f a0 = some r) :
    Calls Tryd.prog 20 #[.int .i32 a0] w fun e w' => e = .returned (.bool r) ∧ Drawn0 w w' := by
  have H : (if a0 ≥ 0 then (if a0 ≤ 1114111 then (if a0 < 55296 then (some true) else (some (decide (a0 > 57343)))) else (some false)) else (some false)) = some r := h
  clear h
  by_cases c2 : a0 ≥ 0
  · rw [if_pos c2] at H
    have c2b0 : decide (0 ≤ a0) = true := decide_eq_true c2
    clear c2
    by_cases c3 : a0 ≤ 1114111
    · rw [if_pos c3] at H
      have c3b0 : decide (a0 ≤ 1114111) = true := decide_eq_true c3
      clear c3
      by_cases c4 : a0 < 55296
      · rw [if_pos c4] at H
        have c4b0 : decide (a0 < 55296) = true := decide_eq_true c4
        clear c4
        obtain rfl := Option.some.inj H
        go_enter Tryd.func20, Tryd.ntmps20
        go_wp2
        go_ret
        exact ⟨by first | rfl | (simp; done) | (simp [*]; done), by repeat (first | exact Drawn0.refl _ | apply Drawn0.step)⟩
      · rw [if_neg c4] at H
        have c4b0 : decide (a0 < 55296) = false := decide_eq_false c4
        clear c4
        obtain rfl := Option.some.inj H
        go_enter Tryd.func20, Tryd.ntmps20
        go_wp2
        go_ret
        exact ⟨by first | rfl | (simp; done) | (simp [*]; done), by repeat (first | exact Drawn0.refl _ | apply Drawn0.step)⟩
    · rw [if_neg c3] at H
      have c3b0 : decide (a0 ≤ 1114111) = false := decide_eq_false c3
      clear c3
      obtain rfl := Option.some.inj H
      go_enter Tryd.func20, Tryd.ntmps20
      go_wp2
      go_ret
      exact ⟨by first | rfl | (simp; done) | (simp [*]; done), by repeat (first | exact Drawn0.refl _ | apply Drawn0.step)⟩
  · rw [if_neg c2] at H
    have c2b0 : decide (0 ≤ a0) = false := decide_eq_false c2
    clear c2
    obtain rfl := Option.some.inj H
    go_enter Tryd.func20, Tryd.ntmps20
    go_wp2
    go_ret
    exact ⟨by first | rfl | (simp; done) | (simp [*]; done), by repeat (first | exact Drawn0.refl _ | apply Drawn0.step)⟩

/-! ### dragomanref01_Plane: function 21 -/
def dragomanref01_Plane.f (a0 : Int) : Option (Int) := (dragomanref01_Scalar.f a0).bind fun t162 => (if t162 = true then (some (wrap64 (Int.tdiv (wrap64 (a0)) 65536))) else (some (-1)))
set_option maxHeartbeats 8000000 in
set_option maxRecDepth 100000 in
theorem dragomanref01_Plane.calls (a0 : Int) (r : Int) (w : World) (h : dragomanref01_Plane.f a0 = some r) :
    Calls Tryd.prog 21 #[.int .i32 a0] w fun e w' => e = .returned (.int .i64 r) ∧ Drawn0 w w' := by
  have H : ((dragomanref01_Scalar.f a0).bind fun t162 => (if t162 = true then (some (wrap64 (Int.tdiv (wrap64 (a0)) 65536))) else (some (-1)))) = some r := h
  clear h
  replace H := Option.bind_eq_some_iff.mp H
  obtain ⟨t162, A20, H⟩ := H
  replace H : (if t162 = true then (some (wrap64 (Int.tdiv (wrap64 (a0)) 65536))) else (some (-1))) = some r := H
  have A2 := Aside0.mk A20
  clear A20
  by_cases c3 : t162 = true
  · subst c3
    have H1 : (some (wrap64 (Int.tdiv (wrap64 (a0)) 65536))) = some r := by rw [if_pos rfl] at H; exact H
    clear H
    have H := H1
    clear H1
    obtain rfl := Option.some.inj H
    go_enter Tryd.func21, Tryd.ntmps21
    go_wp2_with (first | ((with_reducible refine gate_callee (f := 20) rfl ?_); refine goesL_ (some 4) rfl rfl Tryd.func20 (by kernel_rfl) rfl #[.int .i32 a0] rfl (by (try simp only [List.map_toArray, List.map_cons, List.map_nil]); first | done | rfl | (simp only [List.length_drop, List.length_take]; rfl)) ?_; (with_reducible refine (dragomanref01_Scalar.calls a0 true _ A2.out).mono ?_); rintro e w' ⟨rfl, ⟨nd, rfl⟩⟩; refine ⟨_, rfl, ?_⟩))
    go_ret
    exact ⟨by first | rfl | (simp; done) | (simp [*]; done), by repeat (first | exact Drawn0.refl _ | apply Drawn0.step)⟩
  · replace c3 := Bool.eq_false_iff.mpr c3
    subst c3
    have H1 : (some (-1)) = some r := by rw [if_neg (show ¬ (false = true) by decide)] at H; exact H
    clear H
    have H := H1
    clear H1
    obtain rfl := Option.some.inj H
    go_enter Tryd.func21, Tryd.ntmps21
    go_wp2_with (first | ((with_reducible refine gate_callee (f := 20) rfl ?_); refine goesL_ (some 4) rfl rfl Tryd.func20 (by kernel_rfl) rfl #[.int .i32 a0] rfl (by (try simp only [List.map_toArray, List.map_cons, List.map_nil]); first | done | rfl | (simp only [List.length_drop, List.length_take]; rfl)) ?_; (with_reducible refine (dragomanref01_Scalar.calls a0 false _ A2.out).mono ?_); rintro e w' ⟨rfl, ⟨nd, rfl⟩⟩; refine ⟨_, rfl, ?_⟩))
    go_ret
    exact ⟨by first | rfl | (simp; done) | (simp [*]; done), by repeat (first | exact Drawn0.refl _ | apply Drawn0.step)⟩

/-! ### dragomanref01_High: function 22 -/
def dragomanref01_High.f (a0 : Int) : Option (Bool) := if a0 ≥ 55296 then (some (decide (a0 ≤ 56319))) else (some false)
set_option maxHeartbeats 8000000 in
set_option maxRecDepth 100000 in
theorem dragomanref01_High.calls (a0 : Int) (r : Bool) (w : World) (h : dragomanref01_High.f a0 = some r) :
    Calls Tryd.prog 22 #[.int .i32 a0] w fun e w' => e = .returned (.bool r) ∧ Drawn0 w w' := by
  have H : (if a0 ≥ 55296 then (some (decide (a0 ≤ 56319))) else (some false)) = some r := h
  clear h
  by_cases c2 : a0 ≥ 55296
  · rw [if_pos c2] at H
    have c2b0 : decide (55296 ≤ a0) = true := decide_eq_true c2
    clear c2
    obtain rfl := Option.some.inj H
    go_enter Tryd.func22, Tryd.ntmps22
    go_wp2
    go_ret
    exact ⟨by first | rfl | (simp; done) | (simp [*]; done), by repeat (first | exact Drawn0.refl _ | apply Drawn0.step)⟩
  · rw [if_neg c2] at H
    have c2b0 : decide (55296 ≤ a0) = false := decide_eq_false c2
    clear c2
    obtain rfl := Option.some.inj H
    go_enter Tryd.func22, Tryd.ntmps22
    go_wp2
    go_ret
    exact ⟨by first | rfl | (simp; done) | (simp [*]; done), by repeat (first | exact Drawn0.refl _ | apply Drawn0.step)⟩

/-! ### dragomanref01_Low: function 23 -/
def dragomanref01_Low.f (a0 : Int) : Option (Bool) := if a0 ≥ 56320 then (some (decide (a0 ≤ 57343))) else (some false)
set_option maxHeartbeats 8000000 in
set_option maxRecDepth 100000 in
theorem dragomanref01_Low.calls (a0 : Int) (r : Bool) (w : World) (h : dragomanref01_Low.f a0 = some r) :
    Calls Tryd.prog 23 #[.int .i32 a0] w fun e w' => e = .returned (.bool r) ∧ Drawn0 w w' := by
  have H : (if a0 ≥ 56320 then (some (decide (a0 ≤ 57343))) else (some false)) = some r := h
  clear h
  by_cases c2 : a0 ≥ 56320
  · rw [if_pos c2] at H
    have c2b0 : decide (56320 ≤ a0) = true := decide_eq_true c2
    clear c2
    obtain rfl := Option.some.inj H
    go_enter Tryd.func23, Tryd.ntmps23
    go_wp2
    go_ret
    exact ⟨by first | rfl | (simp; done) | (simp [*]; done), by repeat (first | exact Drawn0.refl _ | apply Drawn0.step)⟩
  · rw [if_neg c2] at H
    have c2b0 : decide (56320 ≤ a0) = false := decide_eq_false c2
    clear c2
    obtain rfl := Option.some.inj H
    go_enter Tryd.func23, Tryd.ntmps23
    go_wp2
    go_ret
    exact ⟨by first | rfl | (simp; done) | (simp [*]; done), by repeat (first | exact Drawn0.refl _ | apply Drawn0.step)⟩

/-! ### dragomanref01_Hex: function 24 -/
def dragomanref01_Hex.l0 : Nat → ByteArray → Int → Option (ByteArray)
  | 0, _, _ => none
  | k + 1, x3, x4 => if x4 > 0 then (if 0 ≤ (Int.tmod x4 16) then (if (Int.tmod x4 16) ≤ (wrap64 ((Int.tmod x4 16) + 1)) then (if (wrap64 ((Int.tmod x4 16) + 1)) ≤ 16 then (if ((⟨#[48, 49, 50, 51, 52, 53, 54, 55, 56, 57, 65, 66, 67, 68, 69, 70]⟩ : ByteArray).extract ((Int.tmod x4 16) : Int).toNat ((wrap64 ((Int.tmod x4 16) + 1)) : Int).toNat).size + x3.size ≤ 9223372036854775807 then (dragomanref01_Hex.l0 k (((⟨#[48, 49, 50, 51, 52, 53, 54, 55, 56, 57, 65, 66, 67, 68, 69, 70]⟩ : ByteArray).extract ((Int.tmod x4 16) : Int).toNat ((wrap64 ((Int.tmod x4 16) + 1)) : Int).toNat) ++ x3) (wrap64 (Int.tdiv x4 16))) else (none)) else (none)) else (none)) else (none)) else (if (x3.size : Int) < 4 then (if 0 ≤ (Int.tmod x4 16) then (if (Int.tmod x4 16) ≤ (wrap64 ((Int.tmod x4 16) + 1)) then (if (wrap64 ((Int.tmod x4 16) + 1)) ≤ 16 then (if ((⟨#[48, 49, 50, 51, 52, 53, 54, 55, 56, 57, 65, 66, 67, 68, 69, 70]⟩ : ByteArray).extract ((Int.tmod x4 16) : Int).toNat ((wrap64 ((Int.tmod x4 16) + 1)) : Int).toNat).size + x3.size ≤ 9223372036854775807 then (dragomanref01_Hex.l0 k (((⟨#[48, 49, 50, 51, 52, 53, 54, 55, 56, 57, 65, 66, 67, 68, 69, 70]⟩ : ByteArray).extract ((Int.tmod x4 16) : Int).toNat ((wrap64 ((Int.tmod x4 16) + 1)) : Int).toNat) ++ x3) (wrap64 (Int.tdiv x4 16))) else (none)) else (none)) else (none)) else (none)) else (if 2 + x3.size ≤ 9223372036854775807 then (some ((⟨#[85, 43]⟩ : ByteArray) ++ x3)) else (none)))
def dragomanref01_Hex.f (k : Nat) (a0 : Int) : Option (ByteArray) := (dragomanref01_Scalar.f a0).bind fun t163 => (if t163 = true then (dragomanref01_Hex.l0 k (⟨#[]⟩ : ByteArray) (wrap64 (a0))) else (some (⟨#[]⟩ : ByteArray)))
theorem dragomanref01_Hex.mono_l : ∀ k, (∀ y0 y1, LeO (dragomanref01_Hex.l0 k y0 y1) (dragomanref01_Hex.l0 (k + 1) y0 y1))
  | 0 => fun _ _ r h => by simp [dragomanref01_Hex.l0] at h
  | k + 1 => by
    have ih0 := dragomanref01_Hex.mono_l k
    · intro y0 y1
      unfold dragomanref01_Hex.l0
      repeat' first
      | (with_reducible exact ih0 _ _)
      | (with_reducible exact LeO.refl _)
      | (with_reducible exact LeO.none _)
      | (with_reducible refine LeO.ite ?_ ?_)
      | (with_reducible refine LeO.bind ?_ (fun _ => ?_))
      | exact ih0 _ _
      | exact LeO.none _
      | refine LeO.ite ?_ ?_
      | refine LeO.bind ?_ (fun _ => ?_)
theorem dragomanref01_Hex.mono : ∀ a0 k, LeO (dragomanref01_Hex.f k a0) (dragomanref01_Hex.f (k + 1) a0) := by
  intro a0 k
  have ih0 := dragomanref01_Hex.mono_l k
  unfold dragomanref01_Hex.f
  repeat' first
      | (with_reducible exact ih0 _ _)
      | (with_reducible exact LeO.refl _)
      | (with_reducible exact LeO.none _)
      | (with_reducible refine LeO.ite ?_ ?_)
      | (with_reducible refine LeO.bind ?_ (fun _ => ?_))
      | exact ih0 _ _
      | exact LeO.none _
      | refine LeO.ite ?_ ?_
      | refine LeO.bind ?_ (fun _ => ?_)
set_option maxHeartbeats 8000000 in
set_option maxRecDepth 100000 in
theorem dragomanref01_Hex.calls (k : Nat) (a0 : Int) (r : ByteArray) (w : World) (h : dragomanref01_Hex.f k a0 = some r) :
    Calls Tryd.prog 24 #[.int .i32 a0] w fun e w' => e = .returned (.string r) ∧ Drawn0 w w' := by
  have H : ((dragomanref01_Scalar.f a0).bind fun t163 => (if t163 = true then (dragomanref01_Hex.l0 k (⟨#[]⟩ : ByteArray) (wrap64 (a0))) else (some (⟨#[]⟩ : ByteArray)))) = some r := h
  clear h
  replace H := Option.bind_eq_some_iff.mp H
  obtain ⟨t163, A20, H⟩ := H
  replace H : (if t163 = true then (dragomanref01_Hex.l0 k (⟨#[]⟩ : ByteArray) (wrap64 (a0))) else (some (⟨#[]⟩ : ByteArray))) = some r := H
  have A2 := Aside0.mk A20
  clear A20
  by_cases c3 : t163 = true
  · subst c3
    have H1 : (dragomanref01_Hex.l0 k (⟨#[]⟩ : ByteArray) (wrap64 (a0))) = some r := by rw [if_pos rfl] at H; exact H
    clear H
    have H := H1
    clear H1
    have H' := Aside0.mk H
    clear H
    go_enter Tryd.func24, Tryd.ntmps24
    go_wp2_with (first | ((with_reducible refine gate_callee (f := 20) rfl ?_); refine goesL_ (some 6) rfl rfl Tryd.func20 (by kernel_rfl) rfl #[.int .i32 a0] rfl (by (try simp only [List.map_toArray, List.map_cons, List.map_nil]); first | done | rfl | (simp only [List.length_drop, List.length_take]; rfl)) ?_; (with_reducible refine (dragomanref01_Scalar.calls a0 true _ A2.out).mono ?_); rintro e w' ⟨rfl, ⟨nd, rfl⟩⟩; refine ⟨_, rfl, ?_⟩))
    go_loopg [3, 4] k (fun kq v3 v4 w' => ∃ (x3_1 : ByteArray) (x4_1 : Int), v3 = .string x3_1 ∧ v4 = .int .i64 x4_1 ∧ Aside0 (dragomanref01_Hex.l0 kq x3_1 x4_1 = some r) ∧ Aside0 (kq ≤ k) ∧ Drawn0 w w')
    case atStart => exact ⟨((⟨#[]⟩ : ByteArray)), (wrap64 (a0)), (by first | rfl | (simp; done) | (simp [*]; done)), (by first | rfl | (simp; done) | (simp [*]; done)), H', ⟨Nat.le_refl _⟩, by repeat (first | exact Drawn0.refl _ | apply Drawn0.step)⟩
    case round =>
      clear H'
      try clear c2
      try clear p2
      try clear c3
      obtain ⟨x3_1, x4_1, rfl, rfl, HA, HK1, ⟨m1, rfl⟩⟩ := hrel
      cases gk with
      | zero => exact absurd HA.out (by simp [dragomanref01_Hex.l0])
      | succ k1 =>
        have H := HA.out
        clear HA
        simp only [dragomanref01_Hex.l0] at H
        by_cases c4 : x4_1 > 0
        · rw [if_pos c4] at H
          have c4b0 : decide (0 < x4_1) = true := decide_eq_true c4
          clear c4
          obtain ⟨ji5, hji5⟩ : ∃ j_ : Int, (Int.tmod x4_1 16) = j_ := ⟨_, rfl⟩
          replace H : (if 0 ≤ (ji5) then (if (ji5) ≤ (wrap64 ((ji5) + 1)) then (if (wrap64 ((ji5) + 1)) ≤ 16 then (if ((⟨#[48, 49, 50, 51, 52, 53, 54, 55, 56, 57, 65, 66, 67, 68, 69, 70]⟩ : ByteArray).extract ((ji5) : Int).toNat ((wrap64 ((ji5) + 1)) : Int).toNat).size + x3_1.size ≤ 9223372036854775807 then (dragomanref01_Hex.l0 k1 (((⟨#[48, 49, 50, 51, 52, 53, 54, 55, 56, 57, 65, 66, 67, 68, 69, 70]⟩ : ByteArray).extract ((ji5) : Int).toNat ((wrap64 ((ji5) + 1)) : Int).toNat) ++ x3_1) (wrap64 (Int.tdiv x4_1 16))) else (none)) else (none)) else (none)) else (none)) = some r := by first | (rw [hji5] at H; exact H) | (simp only [hji5] at H ⊢; exact H)
          by_cases c6 : 0 ≤ (ji5)
          · rw [if_pos c6] at H
            have c6b0 := eq_true c6
            have c6b1 : decide (0 ≤ (ji5)) = true := decide_eq_true c6
            clear c6
            by_cases c7 : (ji5) ≤ (wrap64 ((ji5) + 1))
            · rw [if_pos c7] at H
              have c7b0 := eq_true c7
              have c7b1 : decide ((ji5) ≤ (wrap64 ((ji5) + 1))) = true := decide_eq_true c7
              by_cases c8 : (wrap64 ((ji5) + 1)) ≤ 16
              · rw [if_pos c8] at H
                have c8b0 := eq_true c8
                have c8b1 : decide ((wrap64 ((ji5) + 1)) ≤ 16) = true := decide_eq_true c8
                by_cases c9 : ((⟨#[48, 49, 50, 51, 52, 53, 54, 55, 56, 57, 65, 66, 67, 68, 69, 70]⟩ : ByteArray).extract ((ji5) : Int).toNat ((wrap64 ((ji5) + 1)) : Int).toNat).size + x3_1.size ≤ 9223372036854775807
                · rw [if_pos c9] at H
                  have c9b0 := eq_true c9
                  have c9b1 : decide (((⟨#[48, 49, 50, 51, 52, 53, 54, 55, 56, 57, 65, 66, 67, 68, 69, 70]⟩ : ByteArray).extract ((ji5) : Int).toNat ((wrap64 ((ji5) + 1)) : Int).toNat).size + x3_1.size ≤ 9223372036854775807) = true := decide_eq_true c9
                  try have c9b2 : (9223372036854775807 < ((⟨#[48, 49, 50, 51, 52, 53, 54, 55, 56, 57, 65, 66, 67, 68, 69, 70]⟩ : ByteArray).extract ((ji5) : Int).toNat ((wrap64 ((ji5) + 1)) : Int).toNat).size + x3_1.size) = False := eq_false (Nat.not_lt.2 c9)
                  have H' := Aside0.mk H
                  clear H
                  go_wp2
                  go_roundg k1
                  case measure => have := HK1.out; omega
                  case rel => exact ⟨(((⟨#[48, 49, 50, 51, 52, 53, 54, 55, 56, 57, 65, 66, 67, 68, 69, 70]⟩ : ByteArray).extract ((ji5) : Int).toNat ((wrap64 ((ji5) + 1)) : Int).toNat) ++ x3_1), (wrap64 (Int.tdiv x4_1 16)), (by first | rfl | (simp; done) | (simp only [← hji5] <;> (first | rfl | simp)) | (simp [*]; done)), (by first | rfl | (simp; done) | (simp [*]; done)), H', ⟨by have := HK1.out; omega⟩, by repeat (first | exact Drawn0.refl _ | apply Drawn0.step)⟩
                · rw [if_neg c9] at H
                  exact absurd H (by simp)
              · rw [if_neg c8] at H
                exact absurd H (by simp)
            · rw [if_neg c7] at H
              exact absurd H (by simp)
          · rw [if_neg c6] at H
            exact absurd H (by simp)
        · rw [if_neg c4] at H
          have c4b0 : decide (0 < x4_1) = false := decide_eq_false c4
          clear c4
          by_cases c10 : (x3_1.size : Int) < 4
          · rw [if_pos c10] at H
            have c10b0 : decide ((x3_1.size : Int) < 4) = true := decide_eq_true c10
            have c10b1 : decide (x3_1.size < 4) = true := decide_eq_true (by omega)
            clear c10
            obtain ⟨ji11, hji11⟩ : ∃ j_ : Int, (Int.tmod x4_1 16) = j_ := ⟨_, rfl⟩
            replace H : (if 0 ≤ (ji11) then (if (ji11) ≤ (wrap64 ((ji11) + 1)) then (if (wrap64 ((ji11) + 1)) ≤ 16 then (if ((⟨#[48, 49, 50, 51, 52, 53, 54, 55, 56, 57, 65, 66, 67, 68, 69, 70]⟩ : ByteArray).extract ((ji11) : Int).toNat ((wrap64 ((ji11) + 1)) : Int).toNat).size + x3_1.size ≤ 9223372036854775807 then (dragomanref01_Hex.l0 k1 (((⟨#[48, 49, 50, 51, 52, 53, 54, 55, 56, 57, 65, 66, 67, 68, 69, 70]⟩ : ByteArray).extract ((ji11) : Int).toNat ((wrap64 ((ji11) + 1)) : Int).toNat) ++ x3_1) (wrap64 (Int.tdiv x4_1 16))) else (none)) else (none)) else (none)) else (none)) = some r := by first | (rw [hji11] at H; exact H) | (simp only [hji11] at H ⊢; exact H)
            by_cases c12 : 0 ≤ (ji11)
            · rw [if_pos c12] at H
              have c12b0 := eq_true c12
              have c12b1 : decide (0 ≤ (ji11)) = true := decide_eq_true c12
              clear c12
              by_cases c13 : (ji11) ≤ (wrap64 ((ji11) + 1))
              · rw [if_pos c13] at H
                have c13b0 := eq_true c13
                have c13b1 : decide ((ji11) ≤ (wrap64 ((ji11) + 1))) = true := decide_eq_true c13
                by_cases c14 : (wrap64 ((ji11) + 1)) ≤ 16
                · rw [if_pos c14] at H
                  have c14b0 := eq_true c14
                  have c14b1 : decide ((wrap64 ((ji11) + 1)) ≤ 16) = true := decide_eq_true c14
                  by_cases c15 : ((⟨#[48, 49, 50, 51, 52, 53, 54, 55, 56, 57, 65, 66, 67, 68, 69, 70]⟩ : ByteArray).extract ((ji11) : Int).toNat ((wrap64 ((ji11) + 1)) : Int).toNat).size + x3_1.size ≤ 9223372036854775807
                  · rw [if_pos c15] at H
                    have c15b0 := eq_true c15
                    have c15b1 : decide (((⟨#[48, 49, 50, 51, 52, 53, 54, 55, 56, 57, 65, 66, 67, 68, 69, 70]⟩ : ByteArray).extract ((ji11) : Int).toNat ((wrap64 ((ji11) + 1)) : Int).toNat).size + x3_1.size ≤ 9223372036854775807) = true := decide_eq_true c15
                    try have c15b2 : (9223372036854775807 < ((⟨#[48, 49, 50, 51, 52, 53, 54, 55, 56, 57, 65, 66, 67, 68, 69, 70]⟩ : ByteArray).extract ((ji11) : Int).toNat ((wrap64 ((ji11) + 1)) : Int).toNat).size + x3_1.size) = False := eq_false (Nat.not_lt.2 c15)
                    have H' := Aside0.mk H
                    clear H
                    go_wp2
                    go_roundg k1
                    case measure => have := HK1.out; omega
                    case rel => exact ⟨(((⟨#[48, 49, 50, 51, 52, 53, 54, 55, 56, 57, 65, 66, 67, 68, 69, 70]⟩ : ByteArray).extract ((ji11) : Int).toNat ((wrap64 ((ji11) + 1)) : Int).toNat) ++ x3_1), (wrap64 (Int.tdiv x4_1 16)), (by first | rfl | (simp; done) | (simp only [← hji11] <;> (first | rfl | simp)) | (simp [*]; done)), (by first | rfl | (simp; done) | (simp [*]; done)), H', ⟨by have := HK1.out; omega⟩, by repeat (first | exact Drawn0.refl _ | apply Drawn0.step)⟩
                  · rw [if_neg c15] at H
                    exact absurd H (by simp)
                · rw [if_neg c14] at H
                  exact absurd H (by simp)
              · rw [if_neg c13] at H
                exact absurd H (by simp)
            · rw [if_neg c12] at H
              exact absurd H (by simp)
          · rw [if_neg c10] at H
            have c10b0 : decide ((x3_1.size : Int) < 4) = false := decide_eq_false c10
            have c10b1 : decide (x3_1.size < 4) = false := decide_eq_false (by omega)
            clear c10
            by_cases c16 : 2 + x3_1.size ≤ 9223372036854775807
            · rw [if_pos c16] at H
              have c16b0 := eq_true c16
              have c16b1 : decide (2 + x3_1.size ≤ 9223372036854775807) = true := decide_eq_true c16
              try have c16b2 : (9223372036854775807 < 2 + x3_1.size) = False := eq_false (Nat.not_lt.2 c16)
              obtain rfl := Option.some.inj H
              go_wp2
              go_ret
              exact ⟨by first | rfl | (simp; done) | (simp [*]; done), by repeat (first | exact Drawn0.refl _ | apply Drawn0.step)⟩
            · rw [if_neg c16] at H
              exact absurd H (by simp)
  · replace c3 := Bool.eq_false_iff.mpr c3
    subst c3
    have H1 : (some (⟨#[]⟩ : ByteArray)) = some r := by rw [if_neg (show ¬ (false = true) by decide)] at H; exact H
    clear H
    have H := H1
    clear H1
    obtain rfl := Option.some.inj H
    go_enter Tryd.func24, Tryd.ntmps24
    go_wp2_with (first | ((with_reducible refine gate_callee (f := 20) rfl ?_); refine goesL_ (some 6) rfl rfl Tryd.func20 (by kernel_rfl) rfl #[.int .i32 a0] rfl (by (try simp only [List.map_toArray, List.map_cons, List.map_nil]); first | done | rfl | (simp only [List.length_drop, List.length_take]; rfl)) ?_; (with_reducible refine (dragomanref01_Scalar.calls a0 false _ A2.out).mono ?_); rintro e w' ⟨rfl, ⟨nd, rfl⟩⟩; refine ⟨_, rfl, ?_⟩))
    go_ret
    exact ⟨by first | rfl | (simp; done) | (simp [*]; done), by repeat (first | exact Drawn0.refl _ | apply Drawn0.step)⟩

/-! ### dragomanlaw01_UcsTells: function 5 -/
def dragomanlaw01_UcsTells.f (k : Nat) (a0 : Int) : Option (Bool) := (ucs_Scalar.f a0).bind fun t164 => ((dragomanref01_Scalar.f a0).bind fun t165 => (if (t164 == t165) = true then ((ucs_Plane.f a0).bind fun t166 => ((dragomanref01_Plane.f a0).bind fun t167 => (if t166 = t167 then ((ucs_High.f a0).bind fun t168 => ((dragomanref01_High.f a0).bind fun t169 => (if (t168 == t169) = true then ((ucs_Low.f a0).bind fun t170 => ((dragomanref01_Low.f a0).bind fun t171 => (if (t170 == t171) = true then ((ucs_Hex.f k a0).bind fun t172 => ((dragomanref01_Hex.f k a0).bind fun t173 => (some (t172.toList == t173.toList)))) else (some false)))) else (some false)))) else (some false)))) else (some false)))
theorem dragomanlaw01_UcsTells.mono : ∀ a0 k, LeO (dragomanlaw01_UcsTells.f k a0) (dragomanlaw01_UcsTells.f (k + 1) a0) := by
  intro a0 k
  unfold dragomanlaw01_UcsTells.f
  repeat' first
      | (with_reducible exact dragomanref01_Hex.mono _ _)
      | (with_reducible exact ucs_Hex.mono _ _)
      | (with_reducible exact LeO.refl _)
      | (with_reducible exact LeO.none _)
      | (with_reducible refine LeO.ite ?_ ?_)
      | (with_reducible refine LeO.bind ?_ (fun _ => ?_))
      | exact dragomanref01_Hex.mono _ _
      | exact ucs_Hex.mono _ _
      | exact LeO.none _
      | refine LeO.ite ?_ ?_
      | refine LeO.bind ?_ (fun _ => ?_)
set_option maxHeartbeats 8000000 in
set_option maxRecDepth 100000 in
theorem dragomanlaw01_UcsTells.calls (k : Nat) (a0 : Int) (r : Bool) (w : World) (h : dragomanlaw01_UcsTells.f k a0 = some r) (hT : Uc.Tab w) :
    Calls Tryd.prog 5 #[.int .i32 a0] w fun e w' => e = .returned (.bool r) ∧ Below w.heap.size w w' := by
  have HB := Aside0.mk (Below.refl w.heap.size w)
  have H : ((ucs_Scalar.f a0).bind fun t164 => ((dragomanref01_Scalar.f a0).bind fun t165 => (if (t164 == t165) = true then ((ucs_Plane.f a0).bind fun t166 => ((dragomanref01_Plane.f a0).bind fun t167 => (if t166 = t167 then ((ucs_High.f a0).bind fun t168 => ((dragomanref01_High.f a0).bind fun t169 => (if (t168 == t169) = true then ((ucs_Low.f a0).bind fun t170 => ((dragomanref01_Low.f a0).bind fun t171 => (if (t170 == t171) = true then ((ucs_Hex.f k a0).bind fun t172 => ((dragomanref01_Hex.f k a0).bind fun t173 => (some (t172.toList == t173.toList)))) else (some false)))) else (some false)))) else (some false)))) else (some false)))) = some r := h
  clear h
  replace H := Option.bind_eq_some_iff.mp H
  obtain ⟨t164, A20, H⟩ := H
  replace H : ((dragomanref01_Scalar.f a0).bind fun t165 => (if (t164 == t165) = true then ((ucs_Plane.f a0).bind fun t166 => ((dragomanref01_Plane.f a0).bind fun t167 => (if t166 = t167 then ((ucs_High.f a0).bind fun t168 => ((dragomanref01_High.f a0).bind fun t169 => (if (t168 == t169) = true then ((ucs_Low.f a0).bind fun t170 => ((dragomanref01_Low.f a0).bind fun t171 => (if (t170 == t171) = true then ((ucs_Hex.f k a0).bind fun t172 => ((dragomanref01_Hex.f k a0).bind fun t173 => (some (t172.toList == t173.toList)))) else (some false)))) else (some false)))) else (some false)))) else (some false))) = some r := H
  have A2 := Aside0.mk A20
  clear A20
  replace H := Option.bind_eq_some_iff.mp H
  obtain ⟨t165, A30, H⟩ := H
  replace H : (if (t164 == t165) = true then ((ucs_Plane.f a0).bind fun t166 => ((dragomanref01_Plane.f a0).bind fun t167 => (if t166 = t167 then ((ucs_High.f a0).bind fun t168 => ((dragomanref01_High.f a0).bind fun t169 => (if (t168 == t169) = true then ((ucs_Low.f a0).bind fun t170 => ((dragomanref01_Low.f a0).bind fun t171 => (if (t170 == t171) = true then ((ucs_Hex.f k a0).bind fun t172 => ((dragomanref01_Hex.f k a0).bind fun t173 => (some (t172.toList == t173.toList)))) else (some false)))) else (some false)))) else (some false)))) else (some false)) = some r := H
  have A3 := Aside0.mk A30
  clear A30
  by_cases c4 : (t164 == t165) = true
  · rw [if_pos c4] at H
    have c4b0 : (t164 == t165) = true := c4
    (try (have c4b1 : decide (t164 = t165) = true := by simpa using c4))
    (try (have c4b2 : (t164 == t165) = true := by simpa using c4))
    clear c4
    replace H := Option.bind_eq_some_iff.mp H
    obtain ⟨t166, A50, H⟩ := H
    replace H : ((dragomanref01_Plane.f a0).bind fun t167 => (if t166 = t167 then ((ucs_High.f a0).bind fun t168 => ((dragomanref01_High.f a0).bind fun t169 => (if (t168 == t169) = true then ((ucs_Low.f a0).bind fun t170 => ((dragomanref01_Low.f a0).bind fun t171 => (if (t170 == t171) = true then ((ucs_Hex.f k a0).bind fun t172 => ((dragomanref01_Hex.f k a0).bind fun t173 => (some (t172.toList == t173.toList)))) else (some false)))) else (some false)))) else (some false))) = some r := H
    have A5 := Aside0.mk A50
    clear A50
    replace H := Option.bind_eq_some_iff.mp H
    obtain ⟨t167, A60, H⟩ := H
    replace H : (if t166 = t167 then ((ucs_High.f a0).bind fun t168 => ((dragomanref01_High.f a0).bind fun t169 => (if (t168 == t169) = true then ((ucs_Low.f a0).bind fun t170 => ((dragomanref01_Low.f a0).bind fun t171 => (if (t170 == t171) = true then ((ucs_Hex.f k a0).bind fun t172 => ((dragomanref01_Hex.f k a0).bind fun t173 => (some (t172.toList == t173.toList)))) else (some false)))) else (some false)))) else (some false)) = some r := H
    have A6 := Aside0.mk A60
    clear A60
    by_cases c7 : t166 = t167
    · rw [if_pos c7] at H
      have c7b0 : (t166 == t167) = true := beq_iff_eq.mpr c7
      have c7b1 : (t166 != t167) = false := bne_eq_false_iff_eq.mpr c7
      clear c7
      replace H := Option.bind_eq_some_iff.mp H
      obtain ⟨t168, A80, H⟩ := H
      replace H : ((dragomanref01_High.f a0).bind fun t169 => (if (t168 == t169) = true then ((ucs_Low.f a0).bind fun t170 => ((dragomanref01_Low.f a0).bind fun t171 => (if (t170 == t171) = true then ((ucs_Hex.f k a0).bind fun t172 => ((dragomanref01_Hex.f k a0).bind fun t173 => (some (t172.toList == t173.toList)))) else (some false)))) else (some false))) = some r := H
      have A8 := Aside0.mk A80
      clear A80
      replace H := Option.bind_eq_some_iff.mp H
      obtain ⟨t169, A90, H⟩ := H
      replace H : (if (t168 == t169) = true then ((ucs_Low.f a0).bind fun t170 => ((dragomanref01_Low.f a0).bind fun t171 => (if (t170 == t171) = true then ((ucs_Hex.f k a0).bind fun t172 => ((dragomanref01_Hex.f k a0).bind fun t173 => (some (t172.toList == t173.toList)))) else (some false)))) else (some false)) = some r := H
      have A9 := Aside0.mk A90
      clear A90
      by_cases c10 : (t168 == t169) = true
      · rw [if_pos c10] at H
        have c10b0 : (t168 == t169) = true := c10
        (try (have c10b1 : decide (t168 = t169) = true := by simpa using c10))
        (try (have c10b2 : (t168 == t169) = true := by simpa using c10))
        clear c10
        replace H := Option.bind_eq_some_iff.mp H
        obtain ⟨t170, A110, H⟩ := H
        replace H : ((dragomanref01_Low.f a0).bind fun t171 => (if (t170 == t171) = true then ((ucs_Hex.f k a0).bind fun t172 => ((dragomanref01_Hex.f k a0).bind fun t173 => (some (t172.toList == t173.toList)))) else (some false))) = some r := H
        have A11 := Aside0.mk A110
        clear A110
        replace H := Option.bind_eq_some_iff.mp H
        obtain ⟨t171, A120, H⟩ := H
        replace H : (if (t170 == t171) = true then ((ucs_Hex.f k a0).bind fun t172 => ((dragomanref01_Hex.f k a0).bind fun t173 => (some (t172.toList == t173.toList)))) else (some false)) = some r := H
        have A12 := Aside0.mk A120
        clear A120
        by_cases c13 : (t170 == t171) = true
        · rw [if_pos c13] at H
          have c13b0 : (t170 == t171) = true := c13
          (try (have c13b1 : decide (t170 = t171) = true := by simpa using c13))
          (try (have c13b2 : (t170 == t171) = true := by simpa using c13))
          clear c13
          replace H := Option.bind_eq_some_iff.mp H
          obtain ⟨t172, A140, H⟩ := H
          replace H : ((dragomanref01_Hex.f k a0).bind fun t173 => (some (t172.toList == t173.toList))) = some r := H
          have A14 := Aside0.mk A140
          clear A140
          replace H := Option.bind_eq_some_iff.mp H
          obtain ⟨t173, A150, H⟩ := H
          replace H : (some (t172.toList == t173.toList)) = some r := H
          have A15 := Aside0.mk A150
          clear A150
          obtain rfl := Option.some.inj H
          go_enter Tryd.func5, Tryd.ntmps5
          go_wp2_with (first | ((with_reducible refine gate_callee (f := 18) rfl ?_); refine goesL_ (some 4) rfl rfl Tryd.func18 (by kernel_rfl) rfl #[.int .i32 a0] rfl (by (try simp only [List.map_toArray, List.map_cons, List.map_nil]); first | done | rfl | (simp only [List.length_drop, List.length_take]; rfl)) ?_; (with_reducible refine (ucs_Scalar.calls a0 t164 _ A2.out).mono ?_); rintro e w' ⟨rfl, ⟨nd, rfl⟩⟩; refine ⟨_, rfl, ?_⟩) | ((with_reducible refine gate_callee (f := 20) rfl ?_); refine goesL_ (some 6) rfl rfl Tryd.func20 (by kernel_rfl) rfl #[.int .i32 a0] rfl (by (try simp only [List.map_toArray, List.map_cons, List.map_nil]); first | done | rfl | (simp only [List.length_drop, List.length_take]; rfl)) ?_; (with_reducible refine (dragomanref01_Scalar.calls a0 t165 _ A3.out).mono ?_); rintro e w' ⟨rfl, ⟨nd, rfl⟩⟩; refine ⟨_, rfl, ?_⟩) | (go_at_call 17; (with_reducible refine (ucs_Plane.calls a0 t166 _ A5.out).mono ?_); rintro e w' ⟨rfl, ⟨nd, rfl⟩⟩) | (go_at_call 21; (with_reducible refine (dragomanref01_Plane.calls a0 t167 _ A6.out).mono ?_); rintro e w' ⟨rfl, ⟨nd, rfl⟩⟩) | (go_at_call 15; (with_reducible refine (ucs_High.calls a0 t168 _ A8.out).mono ?_); rintro e w' ⟨rfl, ⟨nd, rfl⟩⟩) | (go_at_call 22; (with_reducible refine (dragomanref01_High.calls a0 t169 _ A9.out).mono ?_); rintro e w' ⟨rfl, ⟨nd, rfl⟩⟩) | (go_at_call 16; (with_reducible refine (ucs_Low.calls a0 t170 _ A11.out).mono ?_); rintro e w' ⟨rfl, ⟨nd, rfl⟩⟩) | (go_at_call 23; (with_reducible refine (dragomanref01_Low.calls a0 t171 _ A12.out).mono ?_); rintro e w' ⟨rfl, ⟨nd, rfl⟩⟩) | (go_at_call 19; (with_reducible refine (ucs_Hex.calls k a0 t172 _ A14.out (by first | exact hT | exact Uc.Tab.below hT (by repeat (first | (with_reducible first | exact HB.out | exact Below.refl _ _ | apply below_alloc | apply pw_below_drewN | apply below_drew1) | exact HB.out)))).mono ?_); rintro e w16 ⟨rfl, hb⟩; have n0_ := Aside0.mk (below_step (by repeat (first | (with_reducible first | exact HB.out | apply below_alloc | apply pw_below_drewN | apply below_drew1) | exact HB.out)) hb); clear HB; have HB := n0_; clear n0_; (try clear hb); (try clear hb2); (try clear hk); (try clear hi)) | (go_at_call 24; (with_reducible refine (dragomanref01_Hex.calls k a0 t173 _ A15.out).mono ?_); rintro e w' ⟨rfl, ⟨nd, rfl⟩⟩))
          go_ret
          exact ⟨by first | rfl | (simp [errW_none, errW_some] <;> rfl) | (simp [*, errW_none, errW_some] <;> rfl), by repeat (first | (with_reducible first | exact HB.out | apply below_alloc | apply pw_below_drewN | apply below_drew1) | exact HB.out)⟩
        · rw [if_neg c13] at H
          have c13b0 : (t170 == t171) = false := by simpa using c13
          (try (have c13b1 : decide (t170 = t171) = false := by simpa using c13))
          (try (have c13b2 : (t170 == t171) = false := by simpa using c13))
          (try (have c13b3 : ¬ (t170 = t171) := by simpa using c13))
          clear c13
          obtain rfl := Option.some.inj H
          go_enter Tryd.func5, Tryd.ntmps5
          go_wp2_with (first | ((with_reducible refine gate_callee (f := 18) rfl ?_); refine goesL_ (some 4) rfl rfl Tryd.func18 (by kernel_rfl) rfl #[.int .i32 a0] rfl (by (try simp only [List.map_toArray, List.map_cons, List.map_nil]); first | done | rfl | (simp only [List.length_drop, List.length_take]; rfl)) ?_; (with_reducible refine (ucs_Scalar.calls a0 t164 _ A2.out).mono ?_); rintro e w' ⟨rfl, ⟨nd, rfl⟩⟩; refine ⟨_, rfl, ?_⟩) | ((with_reducible refine gate_callee (f := 20) rfl ?_); refine goesL_ (some 6) rfl rfl Tryd.func20 (by kernel_rfl) rfl #[.int .i32 a0] rfl (by (try simp only [List.map_toArray, List.map_cons, List.map_nil]); first | done | rfl | (simp only [List.length_drop, List.length_take]; rfl)) ?_; (with_reducible refine (dragomanref01_Scalar.calls a0 t165 _ A3.out).mono ?_); rintro e w' ⟨rfl, ⟨nd, rfl⟩⟩; refine ⟨_, rfl, ?_⟩) | (go_at_call 17; (with_reducible refine (ucs_Plane.calls a0 t166 _ A5.out).mono ?_); rintro e w' ⟨rfl, ⟨nd, rfl⟩⟩) | (go_at_call 21; (with_reducible refine (dragomanref01_Plane.calls a0 t167 _ A6.out).mono ?_); rintro e w' ⟨rfl, ⟨nd, rfl⟩⟩) | (go_at_call 15; (with_reducible refine (ucs_High.calls a0 t168 _ A8.out).mono ?_); rintro e w' ⟨rfl, ⟨nd, rfl⟩⟩) | (go_at_call 22; (with_reducible refine (dragomanref01_High.calls a0 t169 _ A9.out).mono ?_); rintro e w' ⟨rfl, ⟨nd, rfl⟩⟩) | (go_at_call 16; (with_reducible refine (ucs_Low.calls a0 t170 _ A11.out).mono ?_); rintro e w' ⟨rfl, ⟨nd, rfl⟩⟩) | (go_at_call 23; (with_reducible refine (dragomanref01_Low.calls a0 t171 _ A12.out).mono ?_); rintro e w' ⟨rfl, ⟨nd, rfl⟩⟩))
          go_ret
          exact ⟨by first | rfl | (simp [errW_none, errW_some] <;> rfl) | (simp [*, errW_none, errW_some] <;> rfl), by repeat (first | (with_reducible first | exact HB.out | apply below_alloc | apply pw_below_drewN | apply below_drew1) | exact HB.out)⟩
      · rw [if_neg c10] at H
        have c10b0 : (t168 == t169) = false := by simpa using c10
        (try (have c10b1 : decide (t168 = t169) = false := by simpa using c10))
        (try (have c10b2 : (t168 == t169) = false := by simpa using c10))
        (try (have c10b3 : ¬ (t168 = t169) := by simpa using c10))
        clear c10
        obtain rfl := Option.some.inj H
        go_enter Tryd.func5, Tryd.ntmps5
        go_wp2_with (first | ((with_reducible refine gate_callee (f := 18) rfl ?_); refine goesL_ (some 4) rfl rfl Tryd.func18 (by kernel_rfl) rfl #[.int .i32 a0] rfl (by (try simp only [List.map_toArray, List.map_cons, List.map_nil]); first | done | rfl | (simp only [List.length_drop, List.length_take]; rfl)) ?_; (with_reducible refine (ucs_Scalar.calls a0 t164 _ A2.out).mono ?_); rintro e w' ⟨rfl, ⟨nd, rfl⟩⟩; refine ⟨_, rfl, ?_⟩) | ((with_reducible refine gate_callee (f := 20) rfl ?_); refine goesL_ (some 6) rfl rfl Tryd.func20 (by kernel_rfl) rfl #[.int .i32 a0] rfl (by (try simp only [List.map_toArray, List.map_cons, List.map_nil]); first | done | rfl | (simp only [List.length_drop, List.length_take]; rfl)) ?_; (with_reducible refine (dragomanref01_Scalar.calls a0 t165 _ A3.out).mono ?_); rintro e w' ⟨rfl, ⟨nd, rfl⟩⟩; refine ⟨_, rfl, ?_⟩) | (go_at_call 17; (with_reducible refine (ucs_Plane.calls a0 t166 _ A5.out).mono ?_); rintro e w' ⟨rfl, ⟨nd, rfl⟩⟩) | (go_at_call 21; (with_reducible refine (dragomanref01_Plane.calls a0 t167 _ A6.out).mono ?_); rintro e w' ⟨rfl, ⟨nd, rfl⟩⟩) | (go_at_call 15; (with_reducible refine (ucs_High.calls a0 t168 _ A8.out).mono ?_); rintro e w' ⟨rfl, ⟨nd, rfl⟩⟩) | (go_at_call 22; (with_reducible refine (dragomanref01_High.calls a0 t169 _ A9.out).mono ?_); rintro e w' ⟨rfl, ⟨nd, rfl⟩⟩))
        go_ret
        exact ⟨by first | rfl | (simp [errW_none, errW_some] <;> rfl) | (simp [*, errW_none, errW_some] <;> rfl), by repeat (first | (with_reducible first | exact HB.out | apply below_alloc | apply pw_below_drewN | apply below_drew1) | exact HB.out)⟩
    · rw [if_neg c7] at H
      have c7b0 : (t166 == t167) = false := beq_eq_false_iff_ne.mpr c7
      have c7b1 : (t166 != t167) = true := bne_iff_ne.mpr c7
      obtain rfl := Option.some.inj H
      go_enter Tryd.func5, Tryd.ntmps5
      go_wp2_with (first | ((with_reducible refine gate_callee (f := 18) rfl ?_); refine goesL_ (some 4) rfl rfl Tryd.func18 (by kernel_rfl) rfl #[.int .i32 a0] rfl (by (try simp only [List.map_toArray, List.map_cons, List.map_nil]); first | done | rfl | (simp only [List.length_drop, List.length_take]; rfl)) ?_; (with_reducible refine (ucs_Scalar.calls a0 t164 _ A2.out).mono ?_); rintro e w' ⟨rfl, ⟨nd, rfl⟩⟩; refine ⟨_, rfl, ?_⟩) | ((with_reducible refine gate_callee (f := 20) rfl ?_); refine goesL_ (some 6) rfl rfl Tryd.func20 (by kernel_rfl) rfl #[.int .i32 a0] rfl (by (try simp only [List.map_toArray, List.map_cons, List.map_nil]); first | done | rfl | (simp only [List.length_drop, List.length_take]; rfl)) ?_; (with_reducible refine (dragomanref01_Scalar.calls a0 t165 _ A3.out).mono ?_); rintro e w' ⟨rfl, ⟨nd, rfl⟩⟩; refine ⟨_, rfl, ?_⟩) | (go_at_call 17; (with_reducible refine (ucs_Plane.calls a0 t166 _ A5.out).mono ?_); rintro e w' ⟨rfl, ⟨nd, rfl⟩⟩) | (go_at_call 21; (with_reducible refine (dragomanref01_Plane.calls a0 t167 _ A6.out).mono ?_); rintro e w' ⟨rfl, ⟨nd, rfl⟩⟩))
      go_ret
      exact ⟨by first | rfl | (simp [errW_none, errW_some] <;> rfl) | (simp [*, errW_none, errW_some] <;> rfl), by repeat (first | (with_reducible first | exact HB.out | apply below_alloc | apply pw_below_drewN | apply below_drew1) | exact HB.out)⟩
  · rw [if_neg c4] at H
    have c4b0 : (t164 == t165) = false := by simpa using c4
    (try (have c4b1 : decide (t164 = t165) = false := by simpa using c4))
    (try (have c4b2 : (t164 == t165) = false := by simpa using c4))
    (try (have c4b3 : ¬ (t164 = t165) := by simpa using c4))
    clear c4
    obtain rfl := Option.some.inj H
    go_enter Tryd.func5, Tryd.ntmps5
    go_wp2_with (first | ((with_reducible refine gate_callee (f := 18) rfl ?_); refine goesL_ (some 4) rfl rfl Tryd.func18 (by kernel_rfl) rfl #[.int .i32 a0] rfl (by (try simp only [List.map_toArray, List.map_cons, List.map_nil]); first | done | rfl | (simp only [List.length_drop, List.length_take]; rfl)) ?_; (with_reducible refine (ucs_Scalar.calls a0 t164 _ A2.out).mono ?_); rintro e w' ⟨rfl, ⟨nd, rfl⟩⟩; refine ⟨_, rfl, ?_⟩) | ((with_reducible refine gate_callee (f := 20) rfl ?_); refine goesL_ (some 6) rfl rfl Tryd.func20 (by kernel_rfl) rfl #[.int .i32 a0] rfl (by (try simp only [List.map_toArray, List.map_cons, List.map_nil]); first | done | rfl | (simp only [List.length_drop, List.length_take]; rfl)) ?_; (with_reducible refine (dragomanref01_Scalar.calls a0 t165 _ A3.out).mono ?_); rintro e w' ⟨rfl, ⟨nd, rfl⟩⟩; refine ⟨_, rfl, ?_⟩))
    go_ret
    exact ⟨by first | rfl | (simp [errW_none, errW_some] <;> rfl) | (simp [*, errW_none, errW_some] <;> rfl), by repeat (first | (with_reducible first | exact HB.out | apply below_alloc | apply pw_below_drewN | apply below_drew1) | exact HB.out)⟩

/-- THE ONE PURE STATEMENT of dragomanlaw01_UcsTells: yours. -/
def dragomanlaw01_UcsTells.Pure : Prop := ∀ (a0 : Int), (Lit.int .i32 a0).wf = true → ∃ k, dragomanlaw01_UcsTells.f k a0 = some true
theorem dragomanlaw01_UcsTells.walk (P : dragomanlaw01_UcsTells.Pure) (a0 : Int) (w : World) (w0 : (Lit.int .i32 a0).wf = true) (hT : Uc.Tab w) :
    Calls Tryd.prog 5 #[.int .i32 a0] w fun e w' => e = .returned (.bool true) ∧ Below w.heap.size w w' := by
  obtain ⟨k, h⟩ := P a0 w0
  refine (dragomanlaw01_UcsTells.calls k a0 true w h hT).mono ?_
  rintro e w' ⟨rfl, hd⟩
  exact ⟨rfl, hd⟩

end Go.Proofs.YtegogeglofikhaaDoor.PUcsTells
