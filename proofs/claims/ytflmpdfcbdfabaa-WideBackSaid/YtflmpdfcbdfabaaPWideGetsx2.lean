-- PRINTED BY print.sh 35421559b90ae4d0a3588c463048766b98c2df88dd9212a6774a882060cdf62d: not written by this session
import Derived.Test.YtflmpdfcbdfabaaPWideGetsx0
import Derived.Test.YtflmpdfcbdfabaaPWideGetsx1
namespace Go.Proofs.Ytflmpdfcbdfabaa.PWideGets
open Go.RowKit Go.Proofs.YtflmpdfcbdfabaaW.PrintWords Go.Proofs.YtflmpdfcbdfabaaW.PrintLast Go.Proofs.YtflmpdfcbdfabaaW.PrintMore
attribute [local go_sem] max2_int min2_int max_two min_two max_three min_three max_four min_four   -- for this text's walks alone
set_option linter.unusedVariables false
set_option linter.unusedSimpArgs false

attribute [local go_sem high] eqA24
-- NOT PRINTED: function 27 (wide_big)

-- NOT PRINTED: function 28 (wide_little)

-- NOT PRINTED: function 17 (wide_shapeOf)

-- NOT PRINTED: function 18 (wide_shape_fits)

/-! ### ucs_High: function 32 -/
def ucs_High.f (a0 : Int) : Option (Bool) := if a0 ≥ 55296 then (some (decide (a0 < 56320))) else (some false)
set_option maxHeartbeats 8000000 in
set_option maxRecDepth 100000 in
theorem ucs_High.calls (a0 : Int) (r : Bool) (w : World) (h : ucs_High.f a0 = some r) :
    Calls Try.prog 32 #[.int .i32 a0] w fun e w' => e = .returned (.bool r) ∧ Drawn0 w w' := by
  have H : (if a0 ≥ 55296 then (some (decide (a0 < 56320))) else (some false)) = some r := h
  clear h
  by_cases c2 : a0 ≥ 55296
  · rw [if_pos c2] at H
    have c2b0 : decide (55296 ≤ a0) = true := decide_eq_true c2
    clear c2
    obtain rfl := Option.some.inj H
    go_enter Try.func32, Try.ntmps32
    go_wp2
    go_ret
    exact ⟨by first | rfl | (simp; done) | (simp [*]; done), by repeat (first | exact Drawn0.refl _ | apply Drawn0.step)⟩
  · rw [if_neg c2] at H
    have c2b0 : decide (55296 ≤ a0) = false := decide_eq_false c2
    clear c2
    obtain rfl := Option.some.inj H
    go_enter Try.func32, Try.ntmps32
    go_wp2
    go_ret
    exact ⟨by first | rfl | (simp; done) | (simp [*]; done), by repeat (first | exact Drawn0.refl _ | apply Drawn0.step)⟩

/-! ### ucs_Low: function 33 -/
def ucs_Low.f (a0 : Int) : Option (Bool) := if a0 ≥ 56320 then (some (decide (a0 ≤ 57343))) else (some false)
set_option maxHeartbeats 8000000 in
set_option maxRecDepth 100000 in
theorem ucs_Low.calls (a0 : Int) (r : Bool) (w : World) (h : ucs_Low.f a0 = some r) :
    Calls Try.prog 33 #[.int .i32 a0] w fun e w' => e = .returned (.bool r) ∧ Drawn0 w w' := by
  have H : (if a0 ≥ 56320 then (some (decide (a0 ≤ 57343))) else (some false)) = some r := h
  clear h
  by_cases c2 : a0 ≥ 56320
  · rw [if_pos c2] at H
    have c2b0 : decide (56320 ≤ a0) = true := decide_eq_true c2
    clear c2
    obtain rfl := Option.some.inj H
    go_enter Try.func33, Try.ntmps33
    go_wp2
    go_ret
    exact ⟨by first | rfl | (simp; done) | (simp [*]; done), by repeat (first | exact Drawn0.refl _ | apply Drawn0.step)⟩
  · rw [if_neg c2] at H
    have c2b0 : decide (56320 ≤ a0) = false := decide_eq_false c2
    clear c2
    obtain rfl := Option.some.inj H
    go_enter Try.func33, Try.ntmps33
    go_wp2
    go_ret
    exact ⟨by first | rfl | (simp; done) | (simp [*]; done), by repeat (first | exact Drawn0.refl _ | apply Drawn0.step)⟩

/-! ### ucs_Scalar: function 19 -/
def ucs_Scalar.f (a0 : Int) : Option (Bool) := if a0 ≥ 0 then (if a0 ≤ 1114111 then ((ucs_High.f a0).bind fun t101 => (if t101 = true then (some false) else ((ucs_Low.f a0).bind fun t102 => (some (!t102))))) else (some false)) else (some false)
set_option maxHeartbeats 8000000 in
set_option maxRecDepth 100000 in
theorem ucs_Scalar.calls (a0 : Int) (r : Bool) (w : World) (h : ucs_Scalar.f a0 = some r) :
    Calls Try.prog 19 #[.int .i32 a0] w fun e w' => e = .returned (.bool r) ∧ Drawn0 w w' := by
  have H : (if a0 ≥ 0 then (if a0 ≤ 1114111 then ((ucs_High.f a0).bind fun t101 => (if t101 = true then (some false) else ((ucs_Low.f a0).bind fun t102 => (some (!t102))))) else (some false)) else (some false)) = some r := h
  clear h
  by_cases c2 : a0 ≥ 0
  · rw [if_pos c2] at H
    have c2b0 : decide (0 ≤ a0) = true := decide_eq_true c2
    clear c2
    by_cases c3 : a0 ≤ 1114111
    · rw [if_pos c3] at H
      have c3b0 : decide (a0 ≤ 1114111) = true := decide_eq_true c3
      clear c3
      replace H := Option.bind_eq_some_iff.mp H
      obtain ⟨t101, A40, H⟩ := H
      replace H : (if t101 = true then (some false) else ((ucs_Low.f a0).bind fun t102 => (some (!t102)))) = some r := H
      have A4 := Aside0.mk A40
      clear A40
      by_cases c5 : t101 = true
      · subst c5
        have H1 : (some false) = some r := by rw [if_pos rfl] at H; exact H
        clear H
        have H := H1
        clear H1
        obtain rfl := Option.some.inj H
        go_enter Try.func19, Try.ntmps19
        go_wp2_with (first | (go_at_call 32; (with_reducible refine (ucs_High.calls a0 true _ A4.out).mono ?_); rintro e w' ⟨rfl, ⟨nd, rfl⟩⟩))
        go_ret
        exact ⟨by first | rfl | (simp; done) | (simp [*]; done), by repeat (first | exact Drawn0.refl _ | apply Drawn0.step)⟩
      · replace c5 := Bool.eq_false_iff.mpr c5
        subst c5
        have H1 : ((ucs_Low.f a0).bind fun t102 => (some (!t102))) = some r := by rw [if_neg (show ¬ (false = true) by decide)] at H; exact H
        clear H
        have H := H1
        clear H1
        replace H := Option.bind_eq_some_iff.mp H
        obtain ⟨t102, A60, H⟩ := H
        replace H : (some (!t102)) = some r := H
        have A6 := Aside0.mk A60
        clear A60
        obtain rfl := Option.some.inj H
        go_enter Try.func19, Try.ntmps19
        go_wp2_with (first | (go_at_call 32; (with_reducible refine (ucs_High.calls a0 false _ A4.out).mono ?_); rintro e w' ⟨rfl, ⟨nd, rfl⟩⟩) | (go_at_call 33; (with_reducible refine (ucs_Low.calls a0 t102 _ A6.out).mono ?_); rintro e w' ⟨rfl, ⟨nd, rfl⟩⟩))
        go_ret
        exact ⟨by first | rfl | (simp; done) | (simp [*]; done), by repeat (first | exact Drawn0.refl _ | apply Drawn0.step)⟩
    · rw [if_neg c3] at H
      have c3b0 : decide (a0 ≤ 1114111) = false := decide_eq_false c3
      clear c3
      obtain rfl := Option.some.inj H
      go_enter Try.func19, Try.ntmps19
      go_wp2
      go_ret
      exact ⟨by first | rfl | (simp; done) | (simp [*]; done), by repeat (first | exact Drawn0.refl _ | apply Drawn0.step)⟩
  · rw [if_neg c2] at H
    have c2b0 : decide (0 ≤ a0) = false := decide_eq_false c2
    clear c2
    obtain rfl := Option.some.inj H
    go_enter Try.func19, Try.ntmps19
    go_wp2
    go_ret
    exact ⟨by first | rfl | (simp; done) | (simp [*]; done), by repeat (first | exact Drawn0.refl _ | apply Drawn0.step)⟩

/-! ### ucs_Join: function 38 -/
def ucs_Join.f (a0 : Int) (a1 : Int) : Option (Int × Bool) := (ucs_High.f a0).bind fun t103 => (if t103 = true then ((ucs_Low.f a1).bind fun t104 => (if t104 = true then (some (wrap32 ((Go.bits .or .i32 (wrap32 ((wrap32 (a0 - 55296)) * 1024)) (wrap32 (a1 - 56320))) + 65536), true)) else (some (0, false)))) else (some (0, false)))
set_option maxHeartbeats 8000000 in
set_option maxRecDepth 100000 in
theorem ucs_Join.calls (a0 : Int) (a1 : Int) (r1 : Int) (r2 : Bool) (w : World) (h : ucs_Join.f a0 a1 = some (r1, r2)) :
    Calls Try.prog 38 #[.int .i32 a0, .int .i32 a1] w fun e w' => e = .returned (.tuple #[.int .i32 r1, .bool r2]) ∧ Drawn0 w w' := by
  have H : ((ucs_High.f a0).bind fun t103 => (if t103 = true then ((ucs_Low.f a1).bind fun t104 => (if t104 = true then (some (wrap32 ((Go.bits .or .i32 (wrap32 ((wrap32 (a0 - 55296)) * 1024)) (wrap32 (a1 - 56320))) + 65536), true)) else (some (0, false)))) else (some (0, false)))) = some (r1, r2) := h
  clear h
  replace H := Option.bind_eq_some_iff.mp H
  obtain ⟨t103, A30, H⟩ := H
  replace H : (if t103 = true then ((ucs_Low.f a1).bind fun t104 => (if t104 = true then (some (wrap32 ((Go.bits .or .i32 (wrap32 ((wrap32 (a0 - 55296)) * 1024)) (wrap32 (a1 - 56320))) + 65536), true)) else (some (0, false)))) else (some (0, false))) = some (r1, r2) := H
  have A3 := Aside0.mk A30
  clear A30
  by_cases c4 : t103 = true
  · subst c4
    have H1 : ((ucs_Low.f a1).bind fun t104 => (if t104 = true then (some (wrap32 ((Go.bits .or .i32 (wrap32 ((wrap32 (a0 - 55296)) * 1024)) (wrap32 (a1 - 56320))) + 65536), true)) else (some (0, false)))) = some (r1, r2) := by rw [if_pos rfl] at H; exact H
    clear H
    have H := H1
    clear H1
    replace H := Option.bind_eq_some_iff.mp H
    obtain ⟨t104, A50, H⟩ := H
    replace H : (if t104 = true then (some (wrap32 ((Go.bits .or .i32 (wrap32 ((wrap32 (a0 - 55296)) * 1024)) (wrap32 (a1 - 56320))) + 65536), true)) else (some (0, false))) = some (r1, r2) := H
    have A5 := Aside0.mk A50
    clear A50
    by_cases c6 : t104 = true
    · subst c6
      have H1 : (some (wrap32 ((Go.bits .or .i32 (wrap32 ((wrap32 (a0 - 55296)) * 1024)) (wrap32 (a1 - 56320))) + 65536), true)) = some (r1, r2) := by rw [if_pos rfl] at H; exact H
      clear H
      have H := H1
      clear H1
      simp only [Option.some.injEq, Prod.mk.injEq] at H
      obtain ⟨rfl, rfl⟩ := H
      go_enter Try.func38, Try.ntmps38
      go_wp2_with (first | ((with_reducible refine gate_callee (f := 32) rfl ?_); refine goesL_ (some 7) rfl rfl Try.func32 (by kernel_rfl) rfl #[.int .i32 a0] rfl (by (try simp only [List.map_toArray, List.map_cons, List.map_nil]); first | done | rfl | (simp only [List.length_drop, List.length_take]; rfl)) ?_; (with_reducible refine (ucs_High.calls a0 true _ A3.out).mono ?_); rintro e w' ⟨rfl, ⟨nd, rfl⟩⟩; refine ⟨_, rfl, ?_⟩) | (go_at_call 33; (with_reducible refine (ucs_Low.calls a1 true _ A5.out).mono ?_); rintro e w' ⟨rfl, ⟨nd, rfl⟩⟩))
      go_ret2
      exact ⟨by first | rfl | (simp; done) | (simp [*]; done), by repeat (first | exact Drawn0.refl _ | apply Drawn0.step)⟩
    · replace c6 := Bool.eq_false_iff.mpr c6
      subst c6
      have H1 : (some (0, false)) = some (r1, r2) := by rw [if_neg (show ¬ (false = true) by decide)] at H; exact H
      clear H
      have H := H1
      clear H1
      simp only [Option.some.injEq, Prod.mk.injEq] at H
      obtain ⟨rfl, rfl⟩ := H
      go_enter Try.func38, Try.ntmps38
      go_wp2_with (first | ((with_reducible refine gate_callee (f := 32) rfl ?_); refine goesL_ (some 7) rfl rfl Try.func32 (by kernel_rfl) rfl #[.int .i32 a0] rfl (by (try simp only [List.map_toArray, List.map_cons, List.map_nil]); first | done | rfl | (simp only [List.length_drop, List.length_take]; rfl)) ?_; (with_reducible refine (ucs_High.calls a0 true _ A3.out).mono ?_); rintro e w' ⟨rfl, ⟨nd, rfl⟩⟩; refine ⟨_, rfl, ?_⟩) | (go_at_call 33; (with_reducible refine (ucs_Low.calls a1 false _ A5.out).mono ?_); rintro e w' ⟨rfl, ⟨nd, rfl⟩⟩))
      go_ret2
      exact ⟨by first | rfl | (simp; done) | (simp [*]; done), by repeat (first | exact Drawn0.refl _ | apply Drawn0.step)⟩
  · replace c4 := Bool.eq_false_iff.mpr c4
    subst c4
    have H1 : (some (0, false)) = some (r1, r2) := by rw [if_neg (show ¬ (false = true) by decide)] at H; exact H
    clear H
    have H := H1
    clear H1
    simp only [Option.some.injEq, Prod.mk.injEq] at H
    obtain ⟨rfl, rfl⟩ := H
    go_enter Try.func38, Try.ntmps38
    go_wp2_with (first | ((with_reducible refine gate_callee (f := 32) rfl ?_); refine goesL_ (some 7) rfl rfl Try.func32 (by kernel_rfl) rfl #[.int .i32 a0] rfl (by (try simp only [List.map_toArray, List.map_cons, List.map_nil]); first | done | rfl | (simp only [List.length_drop, List.length_take]; rfl)) ?_; (with_reducible refine (ucs_High.calls a0 false _ A3.out).mono ?_); rintro e w' ⟨rfl, ⟨nd, rfl⟩⟩; refine ⟨_, rfl, ?_⟩))
    go_ret2
    exact ⟨by first | rfl | (simp; done) | (simp [*]; done), by repeat (first | exact Drawn0.refl _ | apply Drawn0.step)⟩

-- NOT PRINTED: function 29 (wide_shape_get)

-- NOT PRINTED: function 11 (wide_Get)

/-! ### dragomanref04_Has: function 14 -/
def dragomanref04_Has.f (a0 : Int) : Option (Bool) := if a0 ≥ 3 then (some (decide (a0 ≤ 10))) else (some false)
set_option maxHeartbeats 8000000 in
set_option maxRecDepth 100000 in
theorem dragomanref04_Has.calls (a0 : Int) (r : Bool) (w : World) (h : dragomanref04_Has.f a0 = some r) :
    Calls Try.prog 14 #[.int .i64 a0] w fun e w' => e = .returned (.bool r) ∧ Drawn0 w w' := by
  have H : (if a0 ≥ 3 then (some (decide (a0 ≤ 10))) else (some false)) = some r := h
  clear h
  by_cases c2 : a0 ≥ 3
  · rw [if_pos c2] at H
    have c2b0 : decide (3 ≤ a0) = true := decide_eq_true c2
    clear c2
    obtain rfl := Option.some.inj H
    go_enter Try.func14, Try.ntmps14
    go_wp2
    go_ret
    exact ⟨by first | rfl | (simp; done) | (simp [*]; done), by repeat (first | exact Drawn0.refl _ | apply Drawn0.step)⟩
  · rw [if_neg c2] at H
    have c2b0 : decide (3 ≤ a0) = false := decide_eq_false c2
    clear c2
    obtain rfl := Option.some.inj H
    go_enter Try.func14, Try.ntmps14
    go_wp2
    go_ret
    exact ⟨by first | rfl | (simp; done) | (simp [*]; done), by repeat (first | exact Drawn0.refl _ | apply Drawn0.step)⟩

/-! ### dragomanref04_marked: function 23 -/
def dragomanref04_marked.f (a0 : Int) : Option (Bool) := if a0 = 5 then (some true) else (some (a0 == 8))
set_option maxHeartbeats 8000000 in
set_option maxRecDepth 100000 in
theorem dragomanref04_marked.calls (a0 : Int) (r : Bool) (w : World) (h : dragomanref04_marked.f a0 = some r) :
    Calls Try.prog 23 #[.int .i64 a0] w fun e w' => e = .returned (.bool r) ∧ Drawn0 w w' := by
  have H : (if a0 = 5 then (some true) else (some (a0 == 8))) = some r := h
  clear h
  by_cases c2 : a0 = 5
  · rw [if_pos c2] at H
    have c2b0 : (a0 == 5) = true := beq_iff_eq.mpr c2
    have c2b1 : (a0 != 5) = false := bne_eq_false_iff_eq.mpr c2
    clear c2
    obtain rfl := Option.some.inj H
    go_enter Try.func23, Try.ntmps23
    go_wp2
    go_ret
    exact ⟨by first | rfl | (simp; done) | (simp [*]; done), by repeat (first | exact Drawn0.refl _ | apply Drawn0.step)⟩
  · rw [if_neg c2] at H
    have c2b0 : (a0 == 5) = false := beq_eq_false_iff_ne.mpr c2
    have c2b1 : (a0 != 5) = true := bne_iff_ne.mpr c2
    obtain rfl := Option.some.inj H
    go_enter Try.func23, Try.ntmps23
    go_wp2
    go_ret
    exact ⟨by first | rfl | (simp; done) | (simp [*]; done), by repeat (first | exact Drawn0.refl _ | apply Drawn0.step)⟩

/-! ### dragomanref04_Fits: function 21 -/
def dragomanref04_Fits.f (a0 : Int) (a1_0 : Int) (a1_1 : Int) (a1_2 : Int) (a1_3 : Int) : Option (Bool) := (dragomanref04_marked.f a0).bind fun t108 => (if t108 = true then (if a1_0 ≥ 0 then (if a1_0 ≤ 2 then (some (a1_1 == 0 && (a1_2 == 0 && (a1_3 == 0)))) else (some false)) else (some false)) else (if a1_0 ≥ 0 then (if a1_0 ≤ 0 then (some (a1_1 == 0 && (a1_2 == 0 && (a1_3 == 0)))) else (some false)) else (some false)))
set_option maxHeartbeats 8000000 in
set_option maxRecDepth 100000 in
theorem dragomanref04_Fits.calls (a0 : Int) (a1_0 : Int) (a1_1 : Int) (a1_2 : Int) (a1_3 : Int) (r : Bool) (w : World) (h : dragomanref04_Fits.f a0 a1_0 a1_1 a1_2 a1_3 = some r) :
    Calls Try.prog 21 #[.int .i64 a0, .agg #[.int .i64 a1_0, .int .i64 a1_1, .int .u32 a1_2, .int .i32 a1_3]] w fun e w' => e = .returned (.bool r) ∧ Below w.heap.size w w' := by
  have hu24 := Try.underlying24
  have HB := Aside0.mk (Below.refl w.heap.size w)
  have H : ((dragomanref04_marked.f a0).bind fun t108 => (if t108 = true then (if a1_0 ≥ 0 then (if a1_0 ≤ 2 then (some (a1_1 == 0 && (a1_2 == 0 && (a1_3 == 0)))) else (some false)) else (some false)) else (if a1_0 ≥ 0 then (if a1_0 ≤ 0 then (some (a1_1 == 0 && (a1_2 == 0 && (a1_3 == 0)))) else (some false)) else (some false)))) = some r := h
  clear h
  replace H := Option.bind_eq_some_iff.mp H
  obtain ⟨t108, A30, H⟩ := H
  replace H : (if t108 = true then (if a1_0 ≥ 0 then (if a1_0 ≤ 2 then (some (a1_1 == 0 && (a1_2 == 0 && (a1_3 == 0)))) else (some false)) else (some false)) else (if a1_0 ≥ 0 then (if a1_0 ≤ 0 then (some (a1_1 == 0 && (a1_2 == 0 && (a1_3 == 0)))) else (some false)) else (some false))) = some r := H
  have A3 := Aside0.mk A30
  clear A30
  by_cases c4 : t108 = true
  · subst c4
    have H1 : (if a1_0 ≥ 0 then (if a1_0 ≤ 2 then (some (a1_1 == 0 && (a1_2 == 0 && (a1_3 == 0)))) else (some false)) else (some false)) = some r := by rw [if_pos rfl] at H; exact H
    clear H
    have H := H1
    clear H1
    by_cases c5 : a1_0 ≥ 0
    · rw [if_pos c5] at H
      have c5b0 : decide (0 ≤ a1_0) = true := decide_eq_true c5
      clear c5
      by_cases c6 : a1_0 ≤ 2
      · rw [if_pos c6] at H
        have c6b0 : decide (a1_0 ≤ 2) = true := decide_eq_true c6
        clear c6
        obtain rfl := Option.some.inj H
        go_enter Try.func21, Try.ntmps21
        go_wp2_with (first | ((with_reducible refine gate_dst (N := 3) rfl ?_); refine box_event ?hg (N := 3) ?hd (cs := #[.int .i64 a1_0, .int .i64 a1_1, .int .u32 a1_2, .int .i32 a1_3]) (t := 24) ?hr ?_; (case hd => rfl); (case hg => rfl); (case hr => first | (go_simp; done) | (go_simp; rfl)); intro gb107 hg w7 hbox hb; have n0_ := Aside0.mk (below_step (by repeat (first | (with_reducible first | exact HB.out | apply below_alloc | apply pw_below_drewN | apply below_drew1) | exact HB.out)) hb); have n1_ := Aside0.mk (hbox); have n2_ := Aside0.mk ((by rw [hg]; exact (below_size (by repeat (first | (with_reducible first | exact HB.out | apply below_alloc | apply pw_below_drewN | apply below_drew1) | exact HB.out))) : w.heap.size ≤ gb107)); have n3_ := Aside0.mk ((by rw [hg]; exact (below_size (by repeat (first | (with_reducible first | exact HB.out | apply below_alloc | apply pw_below_drewN | apply below_drew1) | exact HB.out))) : w.heap.size ≤ gb107)); clear HB; have HB := n0_; have BK107 := n1_; have GW107 := n2_; have GE107 := n3_; clear n0_ n1_ n2_ n3_; clear hb hbox hg) | ((with_reducible refine gate_callee (f := 23) rfl ?_); refine goesL_ (some 7) rfl rfl Try.func23 (by kernel_rfl) rfl #[.int .i64 a0] rfl (by (try simp only [List.map_toArray, List.map_cons, List.map_nil]); first | done | rfl | (simp only [List.length_drop, List.length_take]; rfl)) ?_; (with_reducible refine (dragomanref04_marked.calls a0 true _ A3.out).mono ?_); rintro e w' ⟨rfl, ⟨nd, rfl⟩⟩; refine ⟨_, rfl, ?_⟩; have hcz8_0 : w7.cell? ⟨gb107, 0, none⟩ = some (.int .i64 a1_0) := (blk_cell BK107.out 0).trans rfl; have hcz8_1 : w7.cell? ⟨gb107, 1, none⟩ = some (.int .i64 a1_1) := (blk_cell BK107.out 1).trans rfl; have hcz8_2 : w7.cell? ⟨gb107, 2, none⟩ = some (.int .u32 a1_2) := (blk_cell BK107.out 2).trans rfl; have hcz8_3 : w7.cell? ⟨gb107, 3, none⟩ = some (.int .i32 a1_3) := (blk_cell BK107.out 3).trans rfl; have hfz8_0 := blk_frozen BK107.out 0; have hfz8_1 := blk_frozen BK107.out 1; have hfz8_2 := blk_frozen BK107.out 2; have hfz8_3 := blk_frozen BK107.out 3))
        go_ret
        exact ⟨by first | rfl | (simp [errW_none, errW_some] <;> rfl) | (simp [*, errW_none, errW_some] <;> rfl), by repeat (first | (with_reducible first | exact HB.out | apply below_alloc | apply pw_below_drewN | apply below_drew1 | refine below_set ?_ GE107.out) | exact HB.out)⟩
      · rw [if_neg c6] at H
        have c6b0 : decide (a1_0 ≤ 2) = false := decide_eq_false c6
        clear c6
        obtain rfl := Option.some.inj H
        go_enter Try.func21, Try.ntmps21
        go_wp2_with (first | ((with_reducible refine gate_dst (N := 3) rfl ?_); refine box_event ?hg (N := 3) ?hd (cs := #[.int .i64 a1_0, .int .i64 a1_1, .int .u32 a1_2, .int .i32 a1_3]) (t := 24) ?hr ?_; (case hd => rfl); (case hg => rfl); (case hr => first | (go_simp; done) | (go_simp; rfl)); intro gb107 hg w9 hbox hb; have n0_ := Aside0.mk (below_step (by repeat (first | (with_reducible first | exact HB.out | apply below_alloc | apply pw_below_drewN | apply below_drew1) | exact HB.out)) hb); have n1_ := Aside0.mk (hbox); have n2_ := Aside0.mk ((by rw [hg]; exact (below_size (by repeat (first | (with_reducible first | exact HB.out | apply below_alloc | apply pw_below_drewN | apply below_drew1) | exact HB.out))) : w.heap.size ≤ gb107)); have n3_ := Aside0.mk ((by rw [hg]; exact (below_size (by repeat (first | (with_reducible first | exact HB.out | apply below_alloc | apply pw_below_drewN | apply below_drew1) | exact HB.out))) : w.heap.size ≤ gb107)); clear HB; have HB := n0_; have BK107 := n1_; have GW107 := n2_; have GE107 := n3_; clear n0_ n1_ n2_ n3_; clear hb hbox hg) | ((with_reducible refine gate_callee (f := 23) rfl ?_); refine goesL_ (some 7) rfl rfl Try.func23 (by kernel_rfl) rfl #[.int .i64 a0] rfl (by (try simp only [List.map_toArray, List.map_cons, List.map_nil]); first | done | rfl | (simp only [List.length_drop, List.length_take]; rfl)) ?_; (with_reducible refine (dragomanref04_marked.calls a0 true _ A3.out).mono ?_); rintro e w' ⟨rfl, ⟨nd, rfl⟩⟩; refine ⟨_, rfl, ?_⟩; have hcz10_0 : w9.cell? ⟨gb107, 0, none⟩ = some (.int .i64 a1_0) := (blk_cell BK107.out 0).trans rfl; have hcz10_1 : w9.cell? ⟨gb107, 1, none⟩ = some (.int .i64 a1_1) := (blk_cell BK107.out 1).trans rfl; have hcz10_2 : w9.cell? ⟨gb107, 2, none⟩ = some (.int .u32 a1_2) := (blk_cell BK107.out 2).trans rfl; have hcz10_3 : w9.cell? ⟨gb107, 3, none⟩ = some (.int .i32 a1_3) := (blk_cell BK107.out 3).trans rfl; have hfz10_0 := blk_frozen BK107.out 0; have hfz10_1 := blk_frozen BK107.out 1; have hfz10_2 := blk_frozen BK107.out 2; have hfz10_3 := blk_frozen BK107.out 3))
        go_ret
        exact ⟨by first | rfl | (simp [errW_none, errW_some] <;> rfl) | (simp [*, errW_none, errW_some] <;> rfl), by repeat (first | (with_reducible first | exact HB.out | apply below_alloc | apply pw_below_drewN | apply below_drew1 | refine below_set ?_ GE107.out) | exact HB.out)⟩
    · rw [if_neg c5] at H
      have c5b0 : decide (0 ≤ a1_0) = false := decide_eq_false c5
      clear c5
      obtain rfl := Option.some.inj H
      go_enter Try.func21, Try.ntmps21
      go_wp2_with (first | ((with_reducible refine gate_dst (N := 3) rfl ?_); refine box_event ?hg (N := 3) ?hd (cs := #[.int .i64 a1_0, .int .i64 a1_1, .int .u32 a1_2, .int .i32 a1_3]) (t := 24) ?hr ?_; (case hd => rfl); (case hg => rfl); (case hr => first | (go_simp; done) | (go_simp; rfl)); intro gb107 hg w11 hbox hb; have n0_ := Aside0.mk (below_step (by repeat (first | (with_reducible first | exact HB.out | apply below_alloc | apply pw_below_drewN | apply below_drew1) | exact HB.out)) hb); have n1_ := Aside0.mk (hbox); have n2_ := Aside0.mk ((by rw [hg]; exact (below_size (by repeat (first | (with_reducible first | exact HB.out | apply below_alloc | apply pw_below_drewN | apply below_drew1) | exact HB.out))) : w.heap.size ≤ gb107)); have n3_ := Aside0.mk ((by rw [hg]; exact (below_size (by repeat (first | (with_reducible first | exact HB.out | apply below_alloc | apply pw_below_drewN | apply below_drew1) | exact HB.out))) : w.heap.size ≤ gb107)); clear HB; have HB := n0_; have BK107 := n1_; have GW107 := n2_; have GE107 := n3_; clear n0_ n1_ n2_ n3_; clear hb hbox hg) | ((with_reducible refine gate_callee (f := 23) rfl ?_); refine goesL_ (some 7) rfl rfl Try.func23 (by kernel_rfl) rfl #[.int .i64 a0] rfl (by (try simp only [List.map_toArray, List.map_cons, List.map_nil]); first | done | rfl | (simp only [List.length_drop, List.length_take]; rfl)) ?_; (with_reducible refine (dragomanref04_marked.calls a0 true _ A3.out).mono ?_); rintro e w' ⟨rfl, ⟨nd, rfl⟩⟩; refine ⟨_, rfl, ?_⟩; have hcz12_0 : w11.cell? ⟨gb107, 0, none⟩ = some (.int .i64 a1_0) := (blk_cell BK107.out 0).trans rfl; have hcz12_1 : w11.cell? ⟨gb107, 1, none⟩ = some (.int .i64 a1_1) := (blk_cell BK107.out 1).trans rfl; have hcz12_2 : w11.cell? ⟨gb107, 2, none⟩ = some (.int .u32 a1_2) := (blk_cell BK107.out 2).trans rfl; have hcz12_3 : w11.cell? ⟨gb107, 3, none⟩ = some (.int .i32 a1_3) := (blk_cell BK107.out 3).trans rfl; have hfz12_0 := blk_frozen BK107.out 0; have hfz12_1 := blk_frozen BK107.out 1; have hfz12_2 := blk_frozen BK107.out 2; have hfz12_3 := blk_frozen BK107.out 3))
      go_ret
      exact ⟨by first | rfl | (simp [errW_none, errW_some] <;> rfl) | (simp [*, errW_none, errW_some] <;> rfl), by repeat (first | (with_reducible first | exact HB.out | apply below_alloc | apply pw_below_drewN | apply below_drew1 | refine below_set ?_ GE107.out) | exact HB.out)⟩
  · replace c4 := Bool.eq_false_iff.mpr c4
    subst c4
    have H1 : (if a1_0 ≥ 0 then (if a1_0 ≤ 0 then (some (a1_1 == 0 && (a1_2 == 0 && (a1_3 == 0)))) else (some false)) else (some false)) = some r := by rw [if_neg (show ¬ (false = true) by decide)] at H; exact H
    clear H
    have H := H1
    clear H1
    by_cases c13 : a1_0 ≥ 0
    · rw [if_pos c13] at H
      have c13b0 : decide (0 ≤ a1_0) = true := decide_eq_true c13
      clear c13
      by_cases c14 : a1_0 ≤ 0
      · rw [if_pos c14] at H
        have c14b0 : decide (a1_0 ≤ 0) = true := decide_eq_true c14
        clear c14
        obtain rfl := Option.some.inj H
        go_enter Try.func21, Try.ntmps21
        go_wp2_with (first | ((with_reducible refine gate_dst (N := 3) rfl ?_); refine box_event ?hg (N := 3) ?hd (cs := #[.int .i64 a1_0, .int .i64 a1_1, .int .u32 a1_2, .int .i32 a1_3]) (t := 24) ?hr ?_; (case hd => rfl); (case hg => rfl); (case hr => first | (go_simp; done) | (go_simp; rfl)); intro gb107 hg w15 hbox hb; have n0_ := Aside0.mk (below_step (by repeat (first | (with_reducible first | exact HB.out | apply below_alloc | apply pw_below_drewN | apply below_drew1) | exact HB.out)) hb); have n1_ := Aside0.mk (hbox); have n2_ := Aside0.mk ((by rw [hg]; exact (below_size (by repeat (first | (with_reducible first | exact HB.out | apply below_alloc | apply pw_below_drewN | apply below_drew1) | exact HB.out))) : w.heap.size ≤ gb107)); have n3_ := Aside0.mk ((by rw [hg]; exact (below_size (by repeat (first | (with_reducible first | exact HB.out | apply below_alloc | apply pw_below_drewN | apply below_drew1) | exact HB.out))) : w.heap.size ≤ gb107)); clear HB; have HB := n0_; have BK107 := n1_; have GW107 := n2_; have GE107 := n3_; clear n0_ n1_ n2_ n3_; clear hb hbox hg) | ((with_reducible refine gate_callee (f := 23) rfl ?_); refine goesL_ (some 7) rfl rfl Try.func23 (by kernel_rfl) rfl #[.int .i64 a0] rfl (by (try simp only [List.map_toArray, List.map_cons, List.map_nil]); first | done | rfl | (simp only [List.length_drop, List.length_take]; rfl)) ?_; (with_reducible refine (dragomanref04_marked.calls a0 false _ A3.out).mono ?_); rintro e w' ⟨rfl, ⟨nd, rfl⟩⟩; refine ⟨_, rfl, ?_⟩; have hcz16_0 : w15.cell? ⟨gb107, 0, none⟩ = some (.int .i64 a1_0) := (blk_cell BK107.out 0).trans rfl; have hcz16_1 : w15.cell? ⟨gb107, 1, none⟩ = some (.int .i64 a1_1) := (blk_cell BK107.out 1).trans rfl; have hcz16_2 : w15.cell? ⟨gb107, 2, none⟩ = some (.int .u32 a1_2) := (blk_cell BK107.out 2).trans rfl; have hcz16_3 : w15.cell? ⟨gb107, 3, none⟩ = some (.int .i32 a1_3) := (blk_cell BK107.out 3).trans rfl; have hfz16_0 := blk_frozen BK107.out 0; have hfz16_1 := blk_frozen BK107.out 1; have hfz16_2 := blk_frozen BK107.out 2; have hfz16_3 := blk_frozen BK107.out 3))
        go_ret
        exact ⟨by first | rfl | (simp [errW_none, errW_some] <;> rfl) | (simp [*, errW_none, errW_some] <;> rfl), by repeat (first | (with_reducible first | exact HB.out | apply below_alloc | apply pw_below_drewN | apply below_drew1 | refine below_set ?_ GE107.out) | exact HB.out)⟩
      · rw [if_neg c14] at H
        have c14b0 : decide (a1_0 ≤ 0) = false := decide_eq_false c14
        clear c14
        obtain rfl := Option.some.inj H
        go_enter Try.func21, Try.ntmps21
        go_wp2_with (first | ((with_reducible refine gate_dst (N := 3) rfl ?_); refine box_event ?hg (N := 3) ?hd (cs := #[.int .i64 a1_0, .int .i64 a1_1, .int .u32 a1_2, .int .i32 a1_3]) (t := 24) ?hr ?_; (case hd => rfl); (case hg => rfl); (case hr => first | (go_simp; done) | (go_simp; rfl)); intro gb107 hg w17 hbox hb; have n0_ := Aside0.mk (below_step (by repeat (first | (with_reducible first | exact HB.out | apply below_alloc | apply pw_below_drewN | apply below_drew1) | exact HB.out)) hb); have n1_ := Aside0.mk (hbox); have n2_ := Aside0.mk ((by rw [hg]; exact (below_size (by repeat (first | (with_reducible first | exact HB.out | apply below_alloc | apply pw_below_drewN | apply below_drew1) | exact HB.out))) : w.heap.size ≤ gb107)); have n3_ := Aside0.mk ((by rw [hg]; exact (below_size (by repeat (first | (with_reducible first | exact HB.out | apply below_alloc | apply pw_below_drewN | apply below_drew1) | exact HB.out))) : w.heap.size ≤ gb107)); clear HB; have HB := n0_; have BK107 := n1_; have GW107 := n2_; have GE107 := n3_; clear n0_ n1_ n2_ n3_; clear hb hbox hg) | ((with_reducible refine gate_callee (f := 23) rfl ?_); refine goesL_ (some 7) rfl rfl Try.func23 (by kernel_rfl) rfl #[.int .i64 a0] rfl (by (try simp only [List.map_toArray, List.map_cons, List.map_nil]); first | done | rfl | (simp only [List.length_drop, List.length_take]; rfl)) ?_; (with_reducible refine (dragomanref04_marked.calls a0 false _ A3.out).mono ?_); rintro e w' ⟨rfl, ⟨nd, rfl⟩⟩; refine ⟨_, rfl, ?_⟩; have hcz18_0 : w17.cell? ⟨gb107, 0, none⟩ = some (.int .i64 a1_0) := (blk_cell BK107.out 0).trans rfl; have hcz18_1 : w17.cell? ⟨gb107, 1, none⟩ = some (.int .i64 a1_1) := (blk_cell BK107.out 1).trans rfl; have hcz18_2 : w17.cell? ⟨gb107, 2, none⟩ = some (.int .u32 a1_2) := (blk_cell BK107.out 2).trans rfl; have hcz18_3 : w17.cell? ⟨gb107, 3, none⟩ = some (.int .i32 a1_3) := (blk_cell BK107.out 3).trans rfl; have hfz18_0 := blk_frozen BK107.out 0; have hfz18_1 := blk_frozen BK107.out 1; have hfz18_2 := blk_frozen BK107.out 2; have hfz18_3 := blk_frozen BK107.out 3))
        go_ret
        exact ⟨by first | rfl | (simp [errW_none, errW_some] <;> rfl) | (simp [*, errW_none, errW_some] <;> rfl), by repeat (first | (with_reducible first | exact HB.out | apply below_alloc | apply pw_below_drewN | apply below_drew1 | refine below_set ?_ GE107.out) | exact HB.out)⟩
    · rw [if_neg c13] at H
      have c13b0 : decide (0 ≤ a1_0) = false := decide_eq_false c13
      clear c13
      obtain rfl := Option.some.inj H
      go_enter Try.func21, Try.ntmps21
      go_wp2_with (first | ((with_reducible refine gate_dst (N := 3) rfl ?_); refine box_event ?hg (N := 3) ?hd (cs := #[.int .i64 a1_0, .int .i64 a1_1, .int .u32 a1_2, .int .i32 a1_3]) (t := 24) ?hr ?_; (case hd => rfl); (case hg => rfl); (case hr => first | (go_simp; done) | (go_simp; rfl)); intro gb107 hg w19 hbox hb; have n0_ := Aside0.mk (below_step (by repeat (first | (with_reducible first | exact HB.out | apply below_alloc | apply pw_below_drewN | apply below_drew1) | exact HB.out)) hb); have n1_ := Aside0.mk (hbox); have n2_ := Aside0.mk ((by rw [hg]; exact (below_size (by repeat (first | (with_reducible first | exact HB.out | apply below_alloc | apply pw_below_drewN | apply below_drew1) | exact HB.out))) : w.heap.size ≤ gb107)); have n3_ := Aside0.mk ((by rw [hg]; exact (below_size (by repeat (first | (with_reducible first | exact HB.out | apply below_alloc | apply pw_below_drewN | apply below_drew1) | exact HB.out))) : w.heap.size ≤ gb107)); clear HB; have HB := n0_; have BK107 := n1_; have GW107 := n2_; have GE107 := n3_; clear n0_ n1_ n2_ n3_; clear hb hbox hg) | ((with_reducible refine gate_callee (f := 23) rfl ?_); refine goesL_ (some 7) rfl rfl Try.func23 (by kernel_rfl) rfl #[.int .i64 a0] rfl (by (try simp only [List.map_toArray, List.map_cons, List.map_nil]); first | done | rfl | (simp only [List.length_drop, List.length_take]; rfl)) ?_; (with_reducible refine (dragomanref04_marked.calls a0 false _ A3.out).mono ?_); rintro e w' ⟨rfl, ⟨nd, rfl⟩⟩; refine ⟨_, rfl, ?_⟩; have hcz20_0 : w19.cell? ⟨gb107, 0, none⟩ = some (.int .i64 a1_0) := (blk_cell BK107.out 0).trans rfl; have hcz20_1 : w19.cell? ⟨gb107, 1, none⟩ = some (.int .i64 a1_1) := (blk_cell BK107.out 1).trans rfl; have hcz20_2 : w19.cell? ⟨gb107, 2, none⟩ = some (.int .u32 a1_2) := (blk_cell BK107.out 2).trans rfl; have hcz20_3 : w19.cell? ⟨gb107, 3, none⟩ = some (.int .i32 a1_3) := (blk_cell BK107.out 3).trans rfl; have hfz20_0 := blk_frozen BK107.out 0; have hfz20_1 := blk_frozen BK107.out 1; have hfz20_2 := blk_frozen BK107.out 2; have hfz20_3 := blk_frozen BK107.out 3))
      go_ret
      exact ⟨by first | rfl | (simp [errW_none, errW_some] <;> rfl) | (simp [*, errW_none, errW_some] <;> rfl), by repeat (first | (with_reducible first | exact HB.out | apply below_alloc | apply pw_below_drewN | apply below_drew1 | refine below_set ?_ GE107.out) | exact HB.out)⟩

/-! ### dragomanref04_size: function 22 -/
def dragomanref04_size.f (a0 : Int) : Option (Int) := if a0 ≥ 6 then (if a0 ≤ 8 then (some 4) else (some 2)) else (some 2)
set_option maxHeartbeats 8000000 in
set_option maxRecDepth 100000 in
theorem dragomanref04_size.calls (a0 : Int) (r : Int) (w : World) (h : dragomanref04_size.f a0 = some r) :
    Calls Try.prog 22 #[.int .i64 a0] w fun e w' => e = .returned (.int .i64 r) ∧ Drawn0 w w' := by
  have H : (if a0 ≥ 6 then (if a0 ≤ 8 then (some 4) else (some 2)) else (some 2)) = some r := h
  clear h
  by_cases c2 : a0 ≥ 6
  · rw [if_pos c2] at H
    have c2b0 : decide (6 ≤ a0) = true := decide_eq_true c2
    clear c2
    by_cases c3 : a0 ≤ 8
    · rw [if_pos c3] at H
      have c3b0 : decide (a0 ≤ 8) = true := decide_eq_true c3
      clear c3
      obtain rfl := Option.some.inj H
      go_enter Try.func22, Try.ntmps22
      go_wp2
      go_ret
      exact ⟨by first | rfl | (simp; done) | (simp [*]; done), by repeat (first | exact Drawn0.refl _ | apply Drawn0.step)⟩
    · rw [if_neg c3] at H
      have c3b0 : decide (a0 ≤ 8) = false := decide_eq_false c3
      clear c3
      obtain rfl := Option.some.inj H
      go_enter Try.func22, Try.ntmps22
      go_wp2
      go_ret
      exact ⟨by first | rfl | (simp; done) | (simp [*]; done), by repeat (first | exact Drawn0.refl _ | apply Drawn0.step)⟩
  · rw [if_neg c2] at H
    have c2b0 : decide (6 ≤ a0) = false := decide_eq_false c2
    clear c2
    obtain rfl := Option.some.inj H
    go_enter Try.func22, Try.ntmps22
    go_wp2
    go_ret
    exact ⟨by first | rfl | (simp; done) | (simp [*]; done), by repeat (first | exact Drawn0.refl _ | apply Drawn0.step)⟩

/-! ### dragomanref04_little: function 25 -/
def dragomanref04_little.f (a0 : Int) (a1 : Int) : Option (Bool) := if a0 = 4 then (some true) else (if a0 = 7 then (some true) else (if a0 = 10 then (some true) else ((dragomanref04_marked.f a0).bind fun t109 => (if t109 = true then (some (a1 == 2)) else (some false)))))
set_option maxHeartbeats 8000000 in
set_option maxRecDepth 100000 in
theorem dragomanref04_little.calls (a0 : Int) (a1 : Int) (r : Bool) (w : World) (h : dragomanref04_little.f a0 a1 = some r) :
    Calls Try.prog 25 #[.int .i64 a0, .int .i64 a1] w fun e w' => e = .returned (.bool r) ∧ Drawn0 w w' := by
  have H : (if a0 = 4 then (some true) else (if a0 = 7 then (some true) else (if a0 = 10 then (some true) else ((dragomanref04_marked.f a0).bind fun t109 => (if t109 = true then (some (a1 == 2)) else (some false)))))) = some r := h
  clear h
  by_cases c3 : a0 = 4
  · rw [if_pos c3] at H
    have c3b0 : (a0 == 4) = true := beq_iff_eq.mpr c3
    have c3b1 : (a0 != 4) = false := bne_eq_false_iff_eq.mpr c3
    clear c3
    obtain rfl := Option.some.inj H
    go_enter Try.func25, Try.ntmps25
    go_wp2
    go_ret
    exact ⟨by first | rfl | (simp; done) | (simp [*]; done), by repeat (first | exact Drawn0.refl _ | apply Drawn0.step)⟩
  · rw [if_neg c3] at H
    have c3b0 : (a0 == 4) = false := beq_eq_false_iff_ne.mpr c3
    have c3b1 : (a0 != 4) = true := bne_iff_ne.mpr c3
    by_cases c4 : a0 = 7
    · rw [if_pos c4] at H
      have c4b0 : (a0 == 7) = true := beq_iff_eq.mpr c4
      have c4b1 : (a0 != 7) = false := bne_eq_false_iff_eq.mpr c4
      clear c4
      obtain rfl := Option.some.inj H
      go_enter Try.func25, Try.ntmps25
      go_wp2
      go_ret
      exact ⟨by first | rfl | (simp; done) | (simp [*]; done), by repeat (first | exact Drawn0.refl _ | apply Drawn0.step)⟩
    · rw [if_neg c4] at H
      have c4b0 : (a0 == 7) = false := beq_eq_false_iff_ne.mpr c4
      have c4b1 : (a0 != 7) = true := bne_iff_ne.mpr c4
      by_cases c5 : a0 = 10
      · rw [if_pos c5] at H
        have c5b0 : (a0 == 10) = true := beq_iff_eq.mpr c5
        have c5b1 : (a0 != 10) = false := bne_eq_false_iff_eq.mpr c5
        clear c5
        obtain rfl := Option.some.inj H
        go_enter Try.func25, Try.ntmps25
        go_wp2
        go_ret
        exact ⟨by first | rfl | (simp; done) | (simp [*]; done), by repeat (first | exact Drawn0.refl _ | apply Drawn0.step)⟩
      · rw [if_neg c5] at H
        have c5b0 : (a0 == 10) = false := beq_eq_false_iff_ne.mpr c5
        have c5b1 : (a0 != 10) = true := bne_iff_ne.mpr c5
        replace H := Option.bind_eq_some_iff.mp H
        obtain ⟨t109, A60, H⟩ := H
        replace H : (if t109 = true then (some (a1 == 2)) else (some false)) = some r := H
        have A6 := Aside0.mk A60
        clear A60
        by_cases c7 : t109 = true
        · subst c7
          have H1 : (some (a1 == 2)) = some r := by rw [if_pos rfl] at H; exact H
          clear H
          have H := H1
          clear H1
          obtain rfl := Option.some.inj H
          go_enter Try.func25, Try.ntmps25
          go_wp2_with (first | (go_at_call 23; (with_reducible refine (dragomanref04_marked.calls a0 true _ A6.out).mono ?_); rintro e w' ⟨rfl, ⟨nd, rfl⟩⟩))
          go_ret
          exact ⟨by first | rfl | (simp; done) | (simp [*]; done), by repeat (first | exact Drawn0.refl _ | apply Drawn0.step)⟩
        · replace c7 := Bool.eq_false_iff.mpr c7
          subst c7
          have H1 : (some false) = some r := by rw [if_neg (show ¬ (false = true) by decide)] at H; exact H
          clear H
          have H := H1
          clear H1
          obtain rfl := Option.some.inj H
          go_enter Try.func25, Try.ntmps25
          go_wp2_with (first | (go_at_call 23; (with_reducible refine (dragomanref04_marked.calls a0 false _ A6.out).mono ?_); rintro e w' ⟨rfl, ⟨nd, rfl⟩⟩))
          go_ret
          exact ⟨by first | rfl | (simp; done) | (simp [*]; done), by repeat (first | exact Drawn0.refl _ | apply Drawn0.step)⟩

/-! ### dragomanref04_number: function 30 -/
def dragomanref04_number.l0 : Nat → List Int → Int → Bool → Int → Int → Option (Int)
  | 0, _, _, _, _, _ => none
  | k + 1, x0, x1, x2, x7, x8 => if x8 < x1 then (if x2 = true then (if 0 ≤ (wrap64 ((wrap64 (x1 - 1)) - x8)) then (if (wrap64 ((wrap64 (x1 - 1)) - x8)) < (x0.length : Int) then (dragomanref04_number.l0 k x0 x1 x2 ((((x7 * 256) % 4294967296) + ((rd x0 (wrap64 ((wrap64 (x1 - 1)) - x8))) % 4294967296)) % 4294967296) (wrap64 (x8 + 1))) else (none)) else (none)) else (if 0 ≤ x8 then (if x8 < (x0.length : Int) then (dragomanref04_number.l0 k x0 x1 x2 ((((x7 * 256) % 4294967296) + ((rd x0 x8) % 4294967296)) % 4294967296) (wrap64 (x8 + 1))) else (none)) else (none))) else (some x7)
def dragomanref04_number.f (k : Nat) (l0 : List Int) (a1 : Int) (a2 : Bool) : Option (Int) := dragomanref04_number.l0 k l0 a1 a2 0 0
theorem dragomanref04_number.mono_l : ∀ k, (∀ y0 y1 y2 y3 y4, LeO (dragomanref04_number.l0 k y0 y1 y2 y3 y4) (dragomanref04_number.l0 (k + 1) y0 y1 y2 y3 y4))
  | 0 => fun _ _ _ _ _ r h => by simp [dragomanref04_number.l0] at h
  | k + 1 => by
    have ih0 := dragomanref04_number.mono_l k
    · intro y0 y1 y2 y3 y4
      unfold dragomanref04_number.l0
      repeat' first
      | (with_reducible exact ih0 _ _ _ _ _)
      | (with_reducible exact LeO.refl _)
      | (with_reducible exact LeO.none _)
      | (with_reducible refine LeO.ite ?_ ?_)
      | (with_reducible refine LeO.bind ?_ (fun _ => ?_))
      | exact ih0 _ _ _ _ _
      | exact LeO.none _
      | refine LeO.ite ?_ ?_
      | refine LeO.bind ?_ (fun _ => ?_)
theorem dragomanref04_number.mono : ∀ a0 a1 a2 k, LeO (dragomanref04_number.f k a0 a1 a2) (dragomanref04_number.f (k + 1) a0 a1 a2) := by
  intro a0 a1 a2 k
  have ih0 := dragomanref04_number.mono_l k
  unfold dragomanref04_number.f
  repeat' first
      | (with_reducible exact ih0 _ _ _ _ _)
      | (with_reducible exact LeO.refl _)
      | (with_reducible exact LeO.none _)
      | (with_reducible refine LeO.ite ?_ ?_)
      | (with_reducible refine LeO.bind ?_ (fun _ => ?_))
      | exact ih0 _ _ _ _ _
      | exact LeO.none _
      | refine LeO.ite ?_ ?_
      | refine LeO.bind ?_ (fun _ => ?_)
set_option maxHeartbeats 8000000 in
set_option maxRecDepth 100000 in
theorem dragomanref04_number.calls (k : Nat) (A0 : Option Addr) (c0 : Nat) (l0 : List Int) (a1 : Int) (a2 : Bool) (r : Int) (w : World) (hr0 : Kd.C (Kd.int .u8) w A0 l0.length l0) (hc0 : l0.length ≤ c0) (h : dragomanref04_number.f k l0 a1 a2 = some r) :
    Calls Try.prog 30 #[.slice A0 l0.length c0, .int .i64 a1, .bool a2] w fun e w' => e = .returned (.int .u32 r) ∧ Drawn0 w w' := by
  have HR0 := Aside0.mk hr0
  have HC0 := Aside0.mk hc0
  clear hr0 hc0
  have H : (dragomanref04_number.l0 k l0 a1 a2 0 0) = some r := h
  clear h
  have H' := Aside0.mk H
  clear H
  go_enter Try.func30, Try.ntmps30
  go_wp2
  go_loopg [7, 8] k (fun kq v7 v8 w' => ∃ (x7_1 : Int) (x8_1 : Int), v7 = .int .u32 x7_1 ∧ v8 = .int .i64 x8_1 ∧ Aside0 (dragomanref04_number.l0 kq l0 a1 a2 x7_1 x8_1 = some r) ∧ Aside0 (kq ≤ k) ∧ Drawn0 w w')
  case atStart => exact ⟨(0), (0), (by first | rfl | (simp; done) | (simp [*]; done)), (by first | rfl | (simp; done) | (simp [*]; done)), H', ⟨Nat.le_refl _⟩, by repeat (first | exact Drawn0.refl _ | apply Drawn0.step)⟩
  case round =>
    clear H'
    try clear p2
    try clear c3
    obtain ⟨x7_1, x8_1, rfl, rfl, HA, HK1, ⟨m1, rfl⟩⟩ := hrel
    cases gk with
    | zero => exact absurd HA.out (by simp [dragomanref04_number.l0])
    | succ k1 =>
      have H := HA.out
      clear HA
      simp only [dragomanref04_number.l0] at H
      by_cases c4 : x8_1 < a1
      · rw [if_pos c4] at H
        have c4b0 : decide (x8_1 < a1) = true := decide_eq_true c4
        clear c4
        by_cases c5 : a2 = true
        · subst c5
          have H1 : (if 0 ≤ (wrap64 ((wrap64 (a1 - 1)) - x8_1)) then (if (wrap64 ((wrap64 (a1 - 1)) - x8_1)) < (l0.length : Int) then (dragomanref04_number.l0 k1 l0 a1 true ((((x7_1 * 256) % 4294967296) + ((rd l0 (wrap64 ((wrap64 (a1 - 1)) - x8_1))) % 4294967296)) % 4294967296) (wrap64 (x8_1 + 1))) else (none)) else (none)) = some r := by rw [if_pos rfl] at H; exact H
          clear H
          have H := H1
          clear H1
          obtain ⟨ji6, hji6⟩ : ∃ j_ : Int, (wrap64 ((wrap64 (a1 - 1)) - x8_1)) = j_ := ⟨_, rfl⟩
          replace H : (if 0 ≤ (ji6) then (if (ji6) < (l0.length : Int) then (dragomanref04_number.l0 k1 l0 a1 true ((((x7_1 * 256) % 4294967296) + ((rd l0 (ji6)) % 4294967296)) % 4294967296) (wrap64 (x8_1 + 1))) else (none)) else (none)) = some r := by first | (rw [hji6] at H; exact H) | (simp only [hji6] at H ⊢; exact H)
          have hji6w : (IntKind.i64.wrap ((wrap64 (a1 - 1)) - x8_1)) = ji6 := (i64_w _).trans hji6
          by_cases c7 : 0 ≤ (ji6)
          · rw [if_pos c7] at H
            have c7b0 : decide (0 ≤ (ji6)) = true := decide_eq_true c7
            clear c7
            by_cases c8 : (ji6) < (l0.length : Int)
            · rw [if_pos c8] at H
              have c8b0 : decide ((ji6) < (l0.length : Int)) = true := decide_eq_true c8
              clear c8
              have H' := Aside0.mk H
              clear H
              have p110 : 0 ≤ ((ji6) : Int) := of_decide_eq_true (by first | (with_reducible assumption) | assumption)
              have q110 : (ji6) < (l0.length : Int) := of_decide_eq_true (by first | (with_reducible assumption) | assumption)
              obtain ⟨ad110, e110, hx110_0⟩ := Kd.at_int HR0.out (ji6) p110 q110
              cases e110
              replace p110 := eq_true p110
              replace q110 := eq_true q110
              go_wp2
              go_roundg k1
              case measure => have := HK1.out; omega
              case rel => exact ⟨((((x7_1 * 256) % 4294967296) + ((rd l0 (ji6)) % 4294967296)) % 4294967296), (wrap64 (x8_1 + 1)), (by first | rfl | (simp; done) | (simp only [← hji6] <;> (first | rfl | simp)) | (simp [*]; done)), (by first | rfl | (simp; done) | (simp [*]; done)), H', ⟨by have := HK1.out; omega⟩, by repeat (first | exact Drawn0.refl _ | apply Drawn0.step)⟩
            · rw [if_neg c8] at H
              exact absurd H (by simp)
          · rw [if_neg c7] at H
            exact absurd H (by simp)
        · replace c5 := Bool.eq_false_iff.mpr c5
          subst c5
          have H1 : (if 0 ≤ x8_1 then (if x8_1 < (l0.length : Int) then (dragomanref04_number.l0 k1 l0 a1 false ((((x7_1 * 256) % 4294967296) + ((rd l0 x8_1) % 4294967296)) % 4294967296) (wrap64 (x8_1 + 1))) else (none)) else (none)) = some r := by rw [if_neg (show ¬ (false = true) by decide)] at H; exact H
          clear H
          have H := H1
          clear H1
          by_cases c9 : 0 ≤ x8_1
          · rw [if_pos c9] at H
            have c9b0 : decide (0 ≤ x8_1) = true := decide_eq_true c9
            clear c9
            by_cases c10 : x8_1 < (l0.length : Int)
            · rw [if_pos c10] at H
              have c10b0 : decide (x8_1 < (l0.length : Int)) = true := decide_eq_true c10
              clear c10
              have H' := Aside0.mk H
              clear H
              have p111 : 0 ≤ (x8_1 : Int) := of_decide_eq_true (by first | (with_reducible assumption) | assumption)
              have q111 : x8_1 < (l0.length : Int) := of_decide_eq_true (by first | (with_reducible assumption) | assumption)
              obtain ⟨ad111, e111, hx111_0⟩ := Kd.at_int HR0.out x8_1 p111 q111
              cases e111
              replace p111 := eq_true p111
              replace q111 := eq_true q111
              go_wp2
              go_roundg k1
              case measure => have := HK1.out; omega
              case rel => exact ⟨((((x7_1 * 256) % 4294967296) + ((rd l0 x8_1) % 4294967296)) % 4294967296), (wrap64 (x8_1 + 1)), (by first | rfl | (simp; done) | (simp [*]; done)), (by first | rfl | (simp; done) | (simp [*]; done)), H', ⟨by have := HK1.out; omega⟩, by repeat (first | exact Drawn0.refl _ | apply Drawn0.step)⟩
            · rw [if_neg c10] at H
              exact absurd H (by simp)
          · rw [if_neg c9] at H
            exact absurd H (by simp)
      · rw [if_neg c4] at H
        have c4b0 : decide (x8_1 < a1) = false := decide_eq_false c4
        clear c4
        obtain rfl := Option.some.inj H
        go_wp2
        go_ret
        exact ⟨by first | rfl | (simp; done) | (simp [*]; done), by repeat (first | exact Drawn0.refl _ | apply Drawn0.step)⟩

/-! ### dragomanref01_Scalar: function 16 -/
def dragomanref01_Scalar.f (a0 : Int) : Option (Bool) := if a0 ≥ 0 then (if a0 ≤ 1114111 then (if a0 < 55296 then (some true) else (some (decide (a0 > 57343)))) else (some false)) else (some false)
set_option maxHeartbeats 8000000 in
set_option maxRecDepth 100000 in
theorem dragomanref01_Scalar.calls (a0 : Int) (r : Bool) (w : World) (h : dragomanref01_Scalar.f a0 = some r) :
    Calls Try.prog 16 #[.int .i32 a0] w fun e w' => e = .returned (.bool r) ∧ Drawn0 w w' := by
  have H : (if a0 ≥ 0 then (if a0 ≤ 1114111 then (if a0 < 55296 then (some true) else (some (decide (a0 > 57343)))) else (some false)) else (some false)) = some r := h
  clear h
  by_cases c2 : a0 ≥ 0
  · rw [if_pos c2] at H
    have c2b0 : decide (0 ≤ a0) = true := decide_eq_true c2
    clear c2
    by_cases c3 : a0 ≤ 1114111
    · rw [if_pos c3] at H
      have c3b0 : decide (a0 ≤ 1114111) = true := decide_eq_true c3
      clear c3
      by_cases c4 : a0 < 55296
      · rw [if_pos c4] at H
        have c4b0 : decide (a0 < 55296) = true := decide_eq_true c4
        clear c4
        obtain rfl := Option.some.inj H
        go_enter Try.func16, Try.ntmps16
        go_wp2
        go_ret
        exact ⟨by first | rfl | (simp; done) | (simp [*]; done), by repeat (first | exact Drawn0.refl _ | apply Drawn0.step)⟩
      · rw [if_neg c4] at H
        have c4b0 : decide (a0 < 55296) = false := decide_eq_false c4
        clear c4
        obtain rfl := Option.some.inj H
        go_enter Try.func16, Try.ntmps16
        go_wp2
        go_ret
        exact ⟨by first | rfl | (simp; done) | (simp [*]; done), by repeat (first | exact Drawn0.refl _ | apply Drawn0.step)⟩
    · rw [if_neg c3] at H
      have c3b0 : decide (a0 ≤ 1114111) = false := decide_eq_false c3
      clear c3
      obtain rfl := Option.some.inj H
      go_enter Try.func16, Try.ntmps16
      go_wp2
      go_ret
      exact ⟨by first | rfl | (simp; done) | (simp [*]; done), by repeat (first | exact Drawn0.refl _ | apply Drawn0.step)⟩
  · rw [if_neg c2] at H
    have c2b0 : decide (0 ≤ a0) = false := decide_eq_false c2
    clear c2
    obtain rfl := Option.some.inj H
    go_enter Try.func16, Try.ntmps16
    go_wp2
    go_ret
    exact ⟨by first | rfl | (simp; done) | (simp [*]; done), by repeat (first | exact Drawn0.refl _ | apply Drawn0.step)⟩

/-! ### dragomanref01_High: function 39 -/
def dragomanref01_High.f (a0 : Int) : Option (Bool) := if a0 ≥ 55296 then (some (decide (a0 ≤ 56319))) else (some false)
set_option maxHeartbeats 8000000 in
set_option maxRecDepth 100000 in
theorem dragomanref01_High.calls (a0 : Int) (r : Bool) (w : World) (h : dragomanref01_High.f a0 = some r) :
    Calls Try.prog 39 #[.int .i32 a0] w fun e w' => e = .returned (.bool r) ∧ Drawn0 w w' := by
  have H : (if a0 ≥ 55296 then (some (decide (a0 ≤ 56319))) else (some false)) = some r := h
  clear h
  by_cases c2 : a0 ≥ 55296
  · rw [if_pos c2] at H
    have c2b0 : decide (55296 ≤ a0) = true := decide_eq_true c2
    clear c2
    obtain rfl := Option.some.inj H
    go_enter Try.func39, Try.ntmps39
    go_wp2
    go_ret
    exact ⟨by first | rfl | (simp; done) | (simp [*]; done), by repeat (first | exact Drawn0.refl _ | apply Drawn0.step)⟩
  · rw [if_neg c2] at H
    have c2b0 : decide (55296 ≤ a0) = false := decide_eq_false c2
    clear c2
    obtain rfl := Option.some.inj H
    go_enter Try.func39, Try.ntmps39
    go_wp2
    go_ret
    exact ⟨by first | rfl | (simp; done) | (simp [*]; done), by repeat (first | exact Drawn0.refl _ | apply Drawn0.step)⟩

/-! ### dragomanref01_Low: function 41 -/
def dragomanref01_Low.f (a0 : Int) : Option (Bool) := if a0 ≥ 56320 then (some (decide (a0 ≤ 57343))) else (some false)
set_option maxHeartbeats 8000000 in
set_option maxRecDepth 100000 in
theorem dragomanref01_Low.calls (a0 : Int) (r : Bool) (w : World) (h : dragomanref01_Low.f a0 = some r) :
    Calls Try.prog 41 #[.int .i32 a0] w fun e w' => e = .returned (.bool r) ∧ Drawn0 w w' := by
  have H : (if a0 ≥ 56320 then (some (decide (a0 ≤ 57343))) else (some false)) = some r := h
  clear h
  by_cases c2 : a0 ≥ 56320
  · rw [if_pos c2] at H
    have c2b0 : decide (56320 ≤ a0) = true := decide_eq_true c2
    clear c2
    obtain rfl := Option.some.inj H
    go_enter Try.func41, Try.ntmps41
    go_wp2
    go_ret
    exact ⟨by first | rfl | (simp; done) | (simp [*]; done), by repeat (first | exact Drawn0.refl _ | apply Drawn0.step)⟩
  · rw [if_neg c2] at H
    have c2b0 : decide (56320 ≤ a0) = false := decide_eq_false c2
    clear c2
    obtain rfl := Option.some.inj H
    go_enter Try.func41, Try.ntmps41
    go_wp2
    go_ret
    exact ⟨by first | rfl | (simp; done) | (simp [*]; done), by repeat (first | exact Drawn0.refl _ | apply Drawn0.step)⟩

/-! ### dragomanref01_Join: function 40 -/
def dragomanref01_Join.f (a0 : Int) (a1 : Int) : Option (Int × Bool) := (dragomanref01_High.f a0).bind fun t112 => (if t112 = true then ((dragomanref01_Low.f a1).bind fun t113 => (if t113 = true then (some (wrap32 ((wrap32 (65536 + (wrap32 ((wrap32 (a0 - 55296)) * 1024)))) + (wrap32 (a1 - 56320))), true)) else (some (0, false)))) else (some (0, false)))
set_option maxHeartbeats 8000000 in
set_option maxRecDepth 100000 in
theorem dragomanref01_Join.calls (a0 : Int) (a1 : Int) (r1 : Int) (r2 : Bool) (w : World) (h : dragomanref01_Join.f a0 a1 = some (r1, r2)) :
    Calls Try.prog 40 #[.int .i32 a0, .int .i32 a1] w fun e w' => e = .returned (.tuple #[.int .i32 r1, .bool r2]) ∧ Drawn0 w w' := by
  have H : ((dragomanref01_High.f a0).bind fun t112 => (if t112 = true then ((dragomanref01_Low.f a1).bind fun t113 => (if t113 = true then (some (wrap32 ((wrap32 (65536 + (wrap32 ((wrap32 (a0 - 55296)) * 1024)))) + (wrap32 (a1 - 56320))), true)) else (some (0, false)))) else (some (0, false)))) = some (r1, r2) := h
  clear h
  replace H := Option.bind_eq_some_iff.mp H
  obtain ⟨t112, A30, H⟩ := H
  replace H : (if t112 = true then ((dragomanref01_Low.f a1).bind fun t113 => (if t113 = true then (some (wrap32 ((wrap32 (65536 + (wrap32 ((wrap32 (a0 - 55296)) * 1024)))) + (wrap32 (a1 - 56320))), true)) else (some (0, false)))) else (some (0, false))) = some (r1, r2) := H
  have A3 := Aside0.mk A30
  clear A30
  by_cases c4 : t112 = true
  · subst c4
    have H1 : ((dragomanref01_Low.f a1).bind fun t113 => (if t113 = true then (some (wrap32 ((wrap32 (65536 + (wrap32 ((wrap32 (a0 - 55296)) * 1024)))) + (wrap32 (a1 - 56320))), true)) else (some (0, false)))) = some (r1, r2) := by rw [if_pos rfl] at H; exact H
    clear H
    have H := H1
    clear H1
    replace H := Option.bind_eq_some_iff.mp H
    obtain ⟨t113, A50, H⟩ := H
    replace H : (if t113 = true then (some (wrap32 ((wrap32 (65536 + (wrap32 ((wrap32 (a0 - 55296)) * 1024)))) + (wrap32 (a1 - 56320))), true)) else (some (0, false))) = some (r1, r2) := H
    have A5 := Aside0.mk A50
    clear A50
    by_cases c6 : t113 = true
    · subst c6
      have H1 : (some (wrap32 ((wrap32 (65536 + (wrap32 ((wrap32 (a0 - 55296)) * 1024)))) + (wrap32 (a1 - 56320))), true)) = some (r1, r2) := by rw [if_pos rfl] at H; exact H
      clear H
      have H := H1
      clear H1
      simp only [Option.some.injEq, Prod.mk.injEq] at H
      obtain ⟨rfl, rfl⟩ := H
      go_enter Try.func40, Try.ntmps40
      go_wp2_with (first | ((with_reducible refine gate_callee (f := 39) rfl ?_); refine goesL_ (some 7) rfl rfl Try.func39 (by kernel_rfl) rfl #[.int .i32 a0] rfl (by (try simp only [List.map_toArray, List.map_cons, List.map_nil]); first | done | rfl | (simp only [List.length_drop, List.length_take]; rfl)) ?_; (with_reducible refine (dragomanref01_High.calls a0 true _ A3.out).mono ?_); rintro e w' ⟨rfl, ⟨nd, rfl⟩⟩; refine ⟨_, rfl, ?_⟩) | (go_at_call 41; (with_reducible refine (dragomanref01_Low.calls a1 true _ A5.out).mono ?_); rintro e w' ⟨rfl, ⟨nd, rfl⟩⟩))
      go_ret2
      exact ⟨by first | rfl | (simp; done) | (simp [*]; done), by repeat (first | exact Drawn0.refl _ | apply Drawn0.step)⟩
    · replace c6 := Bool.eq_false_iff.mpr c6
      subst c6
      have H1 : (some (0, false)) = some (r1, r2) := by rw [if_neg (show ¬ (false = true) by decide)] at H; exact H
      clear H
      have H := H1
      clear H1
      simp only [Option.some.injEq, Prod.mk.injEq] at H
      obtain ⟨rfl, rfl⟩ := H
      go_enter Try.func40, Try.ntmps40
      go_wp2_with (first | ((with_reducible refine gate_callee (f := 39) rfl ?_); refine goesL_ (some 7) rfl rfl Try.func39 (by kernel_rfl) rfl #[.int .i32 a0] rfl (by (try simp only [List.map_toArray, List.map_cons, List.map_nil]); first | done | rfl | (simp only [List.length_drop, List.length_take]; rfl)) ?_; (with_reducible refine (dragomanref01_High.calls a0 true _ A3.out).mono ?_); rintro e w' ⟨rfl, ⟨nd, rfl⟩⟩; refine ⟨_, rfl, ?_⟩) | (go_at_call 41; (with_reducible refine (dragomanref01_Low.calls a1 false _ A5.out).mono ?_); rintro e w' ⟨rfl, ⟨nd, rfl⟩⟩))
      go_ret2
      exact ⟨by first | rfl | (simp; done) | (simp [*]; done), by repeat (first | exact Drawn0.refl _ | apply Drawn0.step)⟩
  · replace c4 := Bool.eq_false_iff.mpr c4
    subst c4
    have H1 : (some (0, false)) = some (r1, r2) := by rw [if_neg (show ¬ (false = true) by decide)] at H; exact H
    clear H
    have H := H1
    clear H1
    simp only [Option.some.injEq, Prod.mk.injEq] at H
    obtain ⟨rfl, rfl⟩ := H
    go_enter Try.func40, Try.ntmps40
    go_wp2_with (first | ((with_reducible refine gate_callee (f := 39) rfl ?_); refine goesL_ (some 7) rfl rfl Try.func39 (by kernel_rfl) rfl #[.int .i32 a0] rfl (by (try simp only [List.map_toArray, List.map_cons, List.map_nil]); first | done | rfl | (simp only [List.length_drop, List.length_take]; rfl)) ?_; (with_reducible refine (dragomanref01_High.calls a0 false _ A3.out).mono ?_); rintro e w' ⟨rfl, ⟨nd, rfl⟩⟩; refine ⟨_, rfl, ?_⟩))
    go_ret2
    exact ⟨by first | rfl | (simp; done) | (simp [*]; done), by repeat (first | exact Drawn0.refl _ | apply Drawn0.step)⟩

end Go.Proofs.Ytflmpdfcbdfabaa.PWideGets
