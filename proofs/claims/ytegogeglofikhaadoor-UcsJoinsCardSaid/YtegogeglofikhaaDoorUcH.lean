/- ucs.Hex, walked. -/
import Derived.Test.YtegogeglofikhaaDoorUcF
namespace Go.Proofs.YtegogeglofikhaaDoor.Uc
open Go.RowKit Go.Proofs.YtegogeglofikhaaDoorW.PrintWords Go.Proofs.YtegogeglofikhaaDoorW.PrintLast Go.Proofs.YtegogeglofikhaaDoorW.PrintMore
attribute [local go_sem] max2_int min2_int max_two min_two max_three min_three max_four min_four
set_option linter.unusedVariables false
set_option maxRecDepth 100000 in
theorem fiC (u : Nat) (hu : u < 16777216) (w : World) (hT : Tab w) :
    Calls Tryd.prog 42 #[.int .i64 u, .int .i64 16] w fun e w' => e = .returned (.string (strOfNums (hexd 6 u []))) ∧ Below w.heap.size w w' := by
  have HT := Lib.hid hT
  clear hT
  go_enter Tryd.func42, Tryd.ntmps42
  go_wp2_with fail
  refine (fbC u hu _ HT.out).mono ?_
  rintro e w1 ⟨rfl, hb⟩
  have HB := Lib.hid hb
  clear hb
  go_wp2_with fail
  go_ret
  exact ⟨rfl, HB.out⟩
set_option maxRecDepth 100000 in
theorem formatC (u : Nat) (hu : u < 16777216) (w : World) (hT : Tab w) :
    Calls Tryd.prog 29 #[.int .i64 u, .int .i64 16] w fun e w' => e = .returned (.string (strOfNums (hexd 6 u []))) ∧ Below w.heap.size w w' := by
  have HT := Lib.hid hT
  clear hT
  go_enter Tryd.func29, Tryd.ntmps29
  go_wp2_with fail
  refine (fiC u hu _ HT.out).mono ?_
  rintro e w1 ⟨rfl, hb⟩
  have HB := Lib.hid hb
  clear hb
  go_wp2_with fail
  go_ret
  exact ⟨rfl, HB.out⟩
def Scal (u : Int) : Prop := 0 ≤ u ∧ u ≤ 1114111 ∧ ¬ (55296 ≤ u ∧ u ≤ 57343)
instance (u : Int) : Decidable (Scal u) := by unfold Scal; infer_instance
theorem dgl_bd (x : Int) (h0 : 0 ≤ x) (h1 : x < 16) : 0 ≤ dgl x ∧ dgl x < 128 := by
  unfold dgl
  split <;> omega
theorem hexd_bd : ∀ (k : Nat) (u : Int) (acc : List Int), 0 ≤ u → u < 16 ^ k → (∀ x ∈ acc, 0 ≤ x ∧ x < 128) → (∀ x ∈ hexd k u acc, 0 ≤ x ∧ x < 128) ∧ (hexd k u acc).length ≤ acc.length + k
  | 0, u, acc, h0, h1, h => ⟨h, by rw [hexd]; omega⟩
  | k + 1, u, acc, h0, h1, h => by
    rw [hexd]
    by_cases hc : 16 ≤ u
    · rw [if_pos hc]
      have hm : ∀ x ∈ dgl (u % 16) :: acc, 0 ≤ x ∧ x < 128 := by
        intro x hx
        rcases List.mem_cons.1 hx with rfl | hx
        · exact dgl_bd _ (by omega) (by omega)
        · exact h x hx
      obtain ⟨h2, h3⟩ := hexd_bd k (u / 16) (dgl (u % 16) :: acc) (by omega) (by rw [Int.pow_succ] at h1; omega) hm
      exact ⟨h2, by rw [List.length_cons] at h3; omega⟩
    · rw [if_neg hc]
      refine ⟨fun x hx => ?_, by rw [List.length_cons]; omega⟩
      rcases List.mem_cons.1 hx with rfl | hx
      · exact dgl_bd _ h0 (by omega)
      · exact h x hx
/-- The digits in great letters, as ToUpper makes them. -/
def upS (u : Int) : ByteArray := ⟨(Lib.toUpperA (strOfNums (hexd 6 u [])).data.toList).toArray⟩
def hexB (u : Int) : ByteArray := (⟨#[85, 43]⟩ : ByteArray) ++ ⟨(Lib.repeatL (⟨#[48]⟩ : ByteArray).data.toList (4 - (upS u).size)).toArray⟩ ++ upS u
theorem str_mem (l : List Int) (j : Nat) (b : UInt8) (h : (strOfNums l).data.toList[j]? = some b) (hl : ∀ x ∈ l, 0 ≤ x ∧ x < 128) : b.toNat < 128 := by
  unfold strOfNums at h
  simp at h
  obtain ⟨x, hx, rfl⟩ := h
  obtain ⟨h0, h1⟩ := hl x (List.mem_of_getElem? hx)
  obtain ⟨n, rfl⟩ := Int.eq_ofNat_of_zero_le h0
  simp
  omega
theorem pw_bt {w w1 w2 : World} (h : Below w.heap.size w w1) (h2 : Below w1.heap.size w1 w2) : Below w.heap.size w w2 :=
  h.trans ⟨h2.os, h2.tape, h2.output, h2.size, fun b hb => h2.block b (Nat.lt_of_lt_of_le hb h.size)⟩
theorem so_size (l : List Int) : (strOfNums l).size = l.length := by
  unfold strOfNums
  simp [ByteArray.size]
theorem so_sz (l : List Int) (h : l.length ≤ ([] : List Int).length + 6) : (strOfNums l).size ≤ 140737488355328 := by
  rw [so_size]
  simp at h
  omega
theorem up_size (u : Int) : (upS u).size = (hexd 6 u []).length := by
  unfold upS strOfNums
  simp [ByteArray.size, Lib.toUpperA]
/-! ### ucs_High: function 15 -/
def ucs_High.f (a0 : Int) : Option (Bool) := if a0 ≥ 55296 then (some (decide (a0 < 56320))) else (some false)
set_option maxHeartbeats 8000000 in
set_option maxRecDepth 100000 in
theorem ucs_High.calls (a0 : Int) (r : Bool) (w : World) (h : ucs_High.f a0 = some r) :
    Calls Tryd.prog 15 #[.int .i32 a0] w fun e w' => e = .returned (.bool r) ∧ Drawn0 w w' := by
  have H : (if a0 ≥ 55296 then (some (decide (a0 < 56320))) else (some false)) = some r := h
  clear h
  by_cases c2 : a0 ≥ 55296
  · rw [if_pos c2] at H
    have c2b0 : decide (55296 ≤ a0) = true := decide_eq_true c2
    clear c2
    obtain rfl := Option.some.inj H
    go_enter Tryd.func15, Tryd.ntmps15
    go_wp2
    go_ret
    exact ⟨by first | rfl | (simp; done) | (simp [*]; done), by repeat (first | exact Drawn0.refl _ | apply Drawn0.step)⟩
  · rw [if_neg c2] at H
    have c2b0 : decide (55296 ≤ a0) = false := decide_eq_false c2
    clear c2
    obtain rfl := Option.some.inj H
    go_enter Tryd.func15, Tryd.ntmps15
    go_wp2
    go_ret
    exact ⟨by first | rfl | (simp; done) | (simp [*]; done), by repeat (first | exact Drawn0.refl _ | apply Drawn0.step)⟩

/-! ### ucs_Low: function 16 -/
def ucs_Low.f (a0 : Int) : Option (Bool) := if a0 ≥ 56320 then (some (decide (a0 ≤ 57343))) else (some false)
set_option maxHeartbeats 8000000 in
set_option maxRecDepth 100000 in
theorem ucs_Low.calls (a0 : Int) (r : Bool) (w : World) (h : ucs_Low.f a0 = some r) :
    Calls Tryd.prog 16 #[.int .i32 a0] w fun e w' => e = .returned (.bool r) ∧ Drawn0 w w' := by
  have H : (if a0 ≥ 56320 then (some (decide (a0 ≤ 57343))) else (some false)) = some r := h
  clear h
  by_cases c2 : a0 ≥ 56320
  · rw [if_pos c2] at H
    have c2b0 : decide (56320 ≤ a0) = true := decide_eq_true c2
    clear c2
    obtain rfl := Option.some.inj H
    go_enter Tryd.func16, Tryd.ntmps16
    go_wp2
    go_ret
    exact ⟨by first | rfl | (simp; done) | (simp [*]; done), by repeat (first | exact Drawn0.refl _ | apply Drawn0.step)⟩
  · rw [if_neg c2] at H
    have c2b0 : decide (56320 ≤ a0) = false := decide_eq_false c2
    clear c2
    obtain rfl := Option.some.inj H
    go_enter Tryd.func16, Tryd.ntmps16
    go_wp2
    go_ret
    exact ⟨by first | rfl | (simp; done) | (simp [*]; done), by repeat (first | exact Drawn0.refl _ | apply Drawn0.step)⟩

/-! ### ucs_Scalar: function 18 -/
def ucs_Scalar.f (a0 : Int) : Option (Bool) := if a0 ≥ 0 then (if a0 ≤ 1114111 then ((ucs_High.f a0).bind fun t103 => (if t103 = true then (some false) else ((ucs_Low.f a0).bind fun t104 => (some (!t104))))) else (some false)) else (some false)
set_option maxHeartbeats 8000000 in
set_option maxRecDepth 100000 in
theorem ucs_Scalar.calls (a0 : Int) (r : Bool) (w : World) (h : ucs_Scalar.f a0 = some r) :
    Calls Tryd.prog 18 #[.int .i32 a0] w fun e w' => e = .returned (.bool r) ∧ Drawn0 w w' := by
  have H : (if a0 ≥ 0 then (if a0 ≤ 1114111 then ((ucs_High.f a0).bind fun t103 => (if t103 = true then (some false) else ((ucs_Low.f a0).bind fun t104 => (some (!t104))))) else (some false)) else (some false)) = some r := h
  clear h
  by_cases c2 : a0 ≥ 0
  · rw [if_pos c2] at H
    have c2b0 : decide (0 ≤ a0) = true := decide_eq_true c2
    clear c2
    by_cases c3 : a0 ≤ 1114111
    · rw [if_pos c3] at H
      have c3b0 : decide (a0 ≤ 1114111) = true := decide_eq_true c3
      clear c3
      replace H := Option.bind_eq_some_iff.mp H
      obtain ⟨t103, A40, H⟩ := H
      replace H : (if t103 = true then (some false) else ((ucs_Low.f a0).bind fun t104 => (some (!t104)))) = some r := H
      have A4 := Aside0.mk A40
      clear A40
      by_cases c5 : t103 = true
      · subst c5
        have H1 : (some false) = some r := by rw [if_pos rfl] at H; exact H
        clear H
        have H := H1
        clear H1
        obtain rfl := Option.some.inj H
        go_enter Tryd.func18, Tryd.ntmps18
        go_wp2_with (first | (go_at_call 15; (with_reducible refine (ucs_High.calls a0 true _ A4.out).mono ?_); rintro e w' ⟨rfl, ⟨nd, rfl⟩⟩))
        go_ret
        exact ⟨by first | rfl | (simp; done) | (simp [*]; done), by repeat (first | exact Drawn0.refl _ | apply Drawn0.step)⟩
      · replace c5 := Bool.eq_false_iff.mpr c5
        subst c5
        have H1 : ((ucs_Low.f a0).bind fun t104 => (some (!t104))) = some r := by rw [if_neg (show ¬ (false = true) by decide)] at H; exact H
        clear H
        have H := H1
        clear H1
        replace H := Option.bind_eq_some_iff.mp H
        obtain ⟨t104, A60, H⟩ := H
        replace H : (some (!t104)) = some r := H
        have A6 := Aside0.mk A60
        clear A60
        obtain rfl := Option.some.inj H
        go_enter Tryd.func18, Tryd.ntmps18
        go_wp2_with (first | (go_at_call 15; (with_reducible refine (ucs_High.calls a0 false _ A4.out).mono ?_); rintro e w' ⟨rfl, ⟨nd, rfl⟩⟩) | (go_at_call 16; (with_reducible refine (ucs_Low.calls a0 t104 _ A6.out).mono ?_); rintro e w' ⟨rfl, ⟨nd, rfl⟩⟩))
        go_ret
        exact ⟨by first | rfl | (simp; done) | (simp [*]; done), by repeat (first | exact Drawn0.refl _ | apply Drawn0.step)⟩
    · rw [if_neg c3] at H
      have c3b0 : decide (a0 ≤ 1114111) = false := decide_eq_false c3
      clear c3
      obtain rfl := Option.some.inj H
      go_enter Tryd.func18, Tryd.ntmps18
      go_wp2
      go_ret
      exact ⟨by first | rfl | (simp; done) | (simp [*]; done), by repeat (first | exact Drawn0.refl _ | apply Drawn0.step)⟩
  · rw [if_neg c2] at H
    have c2b0 : decide (0 ≤ a0) = false := decide_eq_false c2
    clear c2
    obtain rfl := Option.some.inj H
    go_enter Tryd.func18, Tryd.ntmps18
    go_wp2
    go_ret
    exact ⟨by first | rfl | (simp; done) | (simp [*]; done), by repeat (first | exact Drawn0.refl _ | apply Drawn0.step)⟩

-- NOT PRINTED: function 62 (abi_NoEscape)

-- NOT PRINTED: function 48 (strings_Builder_copyCheck)

-- NOT PRINTED: function 63 (bytealg_MakeNoZero)

-- NOT PRINTED: function 49 (strings_Builder_grow)

-- NOT PRINTED: function 36 (strings_Builder_Grow)

-- NOT PRINTED: function 37 (strings_Builder_WriteString)

-- NOT PRINTED: function 38 (strings_Builder_WriteByte)

-- NOT PRINTED: function 39 (strings_Builder_String)

-- NOT PRINTED: function 64 (utf8_decodeRuneInStringSlow)

-- NOT PRINTED: function 50 (utf8_DecodeRuneInString)

theorem scalar_f (u : Int) : ucs_Scalar.f u = some (decide (Scal u)) := by
  unfold ucs_Scalar.f ucs_High.f ucs_Low.f Scal
  by_cases h0 : u ≥ 0 <;> by_cases h1 : u ≤ 1114111 <;> by_cases h2 : u ≥ 55296 <;> by_cases h3 : u ≤ 56319 <;> by_cases h4 : u ≥ 56320 <;> by_cases h5 : u ≤ 57343 <;> simp [*] <;> omega
theorem scalar_c (u : Int) (w : World) : Calls Tryd.prog 18 #[.int .i32 u] w fun e w' => e = .returned (.bool (decide (Scal u))) ∧ Drawn0 w w' := ucs_Scalar.calls u _ w (scalar_f u)
theorem rep_c (c : Int) (k : Nat) (hk : c = (k : Int)) (h4 : k ≤ 4) (w : World) :
    Calls Tryd.prog 30 #[.string (⟨#[48]⟩ : ByteArray), .int .i64 c] w fun e w' => e = .returned (.string ⟨(Lib.repeatL (⟨#[48]⟩ : ByteArray).data.toList k).toArray⟩) ∧ Below w.heap.size w w' := by
  subst hk
  exact Tryd.strings_Repeat _ k w (by omega) (by rw [show (⟨#[48]⟩ : ByteArray).size = 1 from rfl]; omega)
set_option maxHeartbeats 2000000 in
set_option maxRecDepth 100000 in
theorem hexC (u : Int) (hs : Scal u) (w : World) (hT : Tab w) :
    Calls Tryd.prog 19 #[.int .i32 u] w fun e w' => e = .returned (.string (hexB u)) ∧ Below w.heap.size w w' := by
  have hs' := hs
  obtain ⟨h0, h1, _⟩ := hs
  obtain ⟨n, rfl⟩ := Int.eq_ofNat_of_zero_le h0
  have HS := Lib.hid hs'
  have HT := Lib.hid hT
  clear hT hs'
  go_enter Tryd.func19, Tryd.ntmps19
  go_wp2_with fail
  refine (scalar_c _ _).mono ?_
  rw [decide_eq_true HS.out]
  rintro e w1 ⟨rfl, m, rfl⟩
  go_wp2_with fail
  refine (formatC n (by omega) _ (HT.out.below (pw_below_drewN (Below.refl _ _) m))).mono ?_
  rintro e w2 ⟨rfl, hb⟩
  have HB := Lib.hid hb
  clear hb
  go_wp2_with fail
  have hz : 0 ≤ (n : Int) ∧ (n : Int) < 16 ^ 6 := by omega
  obtain ⟨hq, hq2⟩ := hexd_bd 6 n [] hz.1 hz.2 (by intro x hx; cases hx)
  have HQ := Lib.hid hq
  have HQ2 := Lib.hid hq2
  clear hq hq2 hz
  refine (Tryd.strings_ToUpper_ascii (strOfNums (hexd 6 (n : Int) [])) _ (so_sz _ HQ2.out) (fun j b hj => str_mem _ j b hj HQ.out)).mono ?_
  rintro e w3 ⟨rfl, hb⟩
  have HB2 := Lib.hid (pw_bt HB.out hb)
  clear hb
  obtain ⟨U, hU⟩ : ∃ U : ByteArray, U = upS (n : Int) := ⟨_, rfl⟩
  change Hid _ at HT
  rw [show (⟨(Lib.toUpperA (strOfNums (hexd 6 (n : Int) [])).data.toList).toArray⟩ : ByteArray) = U from hU.symm]
  have hU6 : U.size ≤ 6 := by rw [hU, up_size]; simpa using HQ2.out
  go_wp2_with fail
  all_goals subst hU
  all_goals (refine (rep_c _ (4 - (upS (n : Int)).size) (by simp only [wrap64] at *; omega) (by omega) _).mono ?_; rintro e w4 ⟨rfl, hb⟩; have HB3 := Lib.hid (pw_bt HB2.out hb); clear hb; go_wp2_with fail)
  all_goals first
    | (exfalso; rename_i hx; have hl := Lib.repeatL_length [48] (4 - (upS (n : Int)).size); simp only [List.length_cons, List.length_nil] at hl; omega)
    | (go_ret; exact ⟨rfl, (pw_bt (pw_below_drewN (Below.refl _ _) m) HB3.out)⟩)
set_option maxRecDepth 100000 in
theorem hexNo (u : Int) (hs : ¬ Scal u) (w : World) :
    Calls Tryd.prog 19 #[.int .i32 u] w fun e w' => e = .returned (.string ⟨#[]⟩) ∧ Below w.heap.size w w' := by
  go_enter Tryd.func19, Tryd.ntmps19
  go_wp2_with fail
  refine (scalar_c _ _).mono ?_
  rw [decide_eq_false hs]
  rintro e w1 ⟨rfl, m, rfl⟩
  go_wp2_with fail
  go_ret
  exact ⟨rfl, pw_below_drewN (Below.refl _ _) m⟩
def hexAll (u : Int) : ByteArray := if Scal u then hexB u else ⟨#[]⟩
theorem hexAll_c (u : Int) (w : World) (hT : Tab w) :
    Calls Tryd.prog 19 #[.int .i32 u] w fun e w' => e = .returned (.string (hexAll u)) ∧ Below w.heap.size w w' := by
  unfold hexAll
  by_cases h : Scal u
  · rw [if_pos h]
    exact hexC u h w hT
  · rw [if_neg h]
    exact hexNo u h w
end Go.Proofs.YtegogeglofikhaaDoor.Uc
