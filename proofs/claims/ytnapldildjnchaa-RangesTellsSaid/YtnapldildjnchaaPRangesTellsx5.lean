/- RangesTells: what the functions answer, and their walks; ranges.Scalar is given by YtnapldildjnchaaGRangesTells. Written by a program of ours over the print. -/
import Derived.Test.YtnapldildjnchaaPRangesTellsx0
namespace Go.Proofs.Ytnapldildjnchaa.PRangesTells
open Go.RowKit Go.Proofs.YtnapldildjnchaaW.PrintWords Go.Proofs.YtnapldildjnchaaW.PrintLast Go.Proofs.YtnapldildjnchaaW.PrintMore
attribute [local go_sem] max2_int min2_int max_two min_two max_three min_three max_four min_four   -- for this text's walks alone
set_option linter.unusedVariables false
set_option linter.unusedSimpArgs false

/-! ### ucs_High: function 28 -/
def ucs_High.f (a0 : Int) : Option (Bool) := if a0 ≥ 55296 then (some (decide (a0 < 56320))) else (some false)
set_option maxHeartbeats 8000000 in
set_option maxRecDepth 100000 in
theorem ucs_High.calls (a0 : Int) (r : Bool) (w : World) (h : ucs_High.f a0 = some r) :
    Calls Try.prog 28 #[.int .i32 a0] w fun e w' => e = .returned (.bool r) ∧ Drawn0 w w' := by
  have H : (if a0 ≥ 55296 then (some (decide (a0 < 56320))) else (some false)) = some r := h
  clear h
  by_cases c2 : a0 ≥ 55296
  · rw [if_pos c2] at H
    have c2b0 : decide (55296 ≤ a0) = true := decide_eq_true c2
    clear c2
    obtain rfl := Option.some.inj H
    go_enter Try.func28, Try.ntmps28
    go_wp2
    go_ret
    exact ⟨by first | rfl | (simp; done) | (simp [*]; done), by repeat (first | exact Drawn0.refl _ | apply Drawn0.step)⟩
  · rw [if_neg c2] at H
    have c2b0 : decide (55296 ≤ a0) = false := decide_eq_false c2
    clear c2
    obtain rfl := Option.some.inj H
    go_enter Try.func28, Try.ntmps28
    go_wp2
    go_ret
    exact ⟨by first | rfl | (simp; done) | (simp [*]; done), by repeat (first | exact Drawn0.refl _ | apply Drawn0.step)⟩

/-! ### ucs_Low: function 29 -/
def ucs_Low.f (a0 : Int) : Option (Bool) := if a0 ≥ 56320 then (some (decide (a0 ≤ 57343))) else (some false)
set_option maxHeartbeats 8000000 in
set_option maxRecDepth 100000 in
theorem ucs_Low.calls (a0 : Int) (r : Bool) (w : World) (h : ucs_Low.f a0 = some r) :
    Calls Try.prog 29 #[.int .i32 a0] w fun e w' => e = .returned (.bool r) ∧ Drawn0 w w' := by
  have H : (if a0 ≥ 56320 then (some (decide (a0 ≤ 57343))) else (some false)) = some r := h
  clear h
  by_cases c2 : a0 ≥ 56320
  · rw [if_pos c2] at H
    have c2b0 : decide (56320 ≤ a0) = true := decide_eq_true c2
    clear c2
    obtain rfl := Option.some.inj H
    go_enter Try.func29, Try.ntmps29
    go_wp2
    go_ret
    exact ⟨by first | rfl | (simp; done) | (simp [*]; done), by repeat (first | exact Drawn0.refl _ | apply Drawn0.step)⟩
  · rw [if_neg c2] at H
    have c2b0 : decide (56320 ≤ a0) = false := decide_eq_false c2
    clear c2
    obtain rfl := Option.some.inj H
    go_enter Try.func29, Try.ntmps29
    go_wp2
    go_ret
    exact ⟨by first | rfl | (simp; done) | (simp [*]; done), by repeat (first | exact Drawn0.refl _ | apply Drawn0.step)⟩

/-! ### ucs_Scalar: function 21 -/
def ucs_Scalar.f (a0 : Int) : Option (Bool) := if a0 ≥ 0 then (if a0 ≤ 1114111 then ((ucs_High.f a0).bind fun t111 => (if t111 = true then (some false) else ((ucs_Low.f a0).bind fun t112 => (some (!t112))))) else (some false)) else (some false)
set_option maxHeartbeats 8000000 in
set_option maxRecDepth 100000 in
theorem ucs_Scalar.calls (a0 : Int) (r : Bool) (w : World) (h : ucs_Scalar.f a0 = some r) :
    Calls Try.prog 21 #[.int .i32 a0] w fun e w' => e = .returned (.bool r) ∧ Drawn0 w w' := by
  have H : (if a0 ≥ 0 then (if a0 ≤ 1114111 then ((ucs_High.f a0).bind fun t111 => (if t111 = true then (some false) else ((ucs_Low.f a0).bind fun t112 => (some (!t112))))) else (some false)) else (some false)) = some r := h
  clear h
  by_cases c2 : a0 ≥ 0
  · rw [if_pos c2] at H
    have c2b0 : decide (0 ≤ a0) = true := decide_eq_true c2
    clear c2
    by_cases c3 : a0 ≤ 1114111
    · rw [if_pos c3] at H
      have c3b0 : decide (a0 ≤ 1114111) = true := decide_eq_true c3
      clear c3
      replace H := Option.bind_eq_some_iff.mp H
      obtain ⟨t111, A40, H⟩ := H
      replace H : (if t111 = true then (some false) else ((ucs_Low.f a0).bind fun t112 => (some (!t112)))) = some r := H
      have A4 := Aside0.mk A40
      clear A40
      by_cases c5 : t111 = true
      · subst c5
        have H1 : (some false) = some r := by rw [if_pos rfl] at H; exact H
        clear H
        have H := H1
        clear H1
        obtain rfl := Option.some.inj H
        go_enter Try.func21, Try.ntmps21
        go_wp2_with (first | (go_at_call 28; (with_reducible refine (ucs_High.calls a0 true _ A4.out).mono ?_); rintro e w' ⟨rfl, ⟨nd, rfl⟩⟩))
        go_ret
        exact ⟨by first | rfl | (simp; done) | (simp [*]; done), by repeat (first | exact Drawn0.refl _ | apply Drawn0.step)⟩
      · replace c5 := Bool.eq_false_iff.mpr c5
        subst c5
        have H1 : ((ucs_Low.f a0).bind fun t112 => (some (!t112))) = some r := by rw [if_neg (show ¬ (false = true) by decide)] at H; exact H
        clear H
        have H := H1
        clear H1
        replace H := Option.bind_eq_some_iff.mp H
        obtain ⟨t112, A60, H⟩ := H
        replace H : (some (!t112)) = some r := H
        have A6 := Aside0.mk A60
        clear A60
        obtain rfl := Option.some.inj H
        go_enter Try.func21, Try.ntmps21
        go_wp2_with (first | (go_at_call 28; (with_reducible refine (ucs_High.calls a0 false _ A4.out).mono ?_); rintro e w' ⟨rfl, ⟨nd, rfl⟩⟩) | (go_at_call 29; (with_reducible refine (ucs_Low.calls a0 t112 _ A6.out).mono ?_); rintro e w' ⟨rfl, ⟨nd, rfl⟩⟩))
        go_ret
        exact ⟨by first | rfl | (simp; done) | (simp [*]; done), by repeat (first | exact Drawn0.refl _ | apply Drawn0.step)⟩
    · rw [if_neg c3] at H
      have c3b0 : decide (a0 ≤ 1114111) = false := decide_eq_false c3
      clear c3
      obtain rfl := Option.some.inj H
      go_enter Try.func21, Try.ntmps21
      go_wp2
      go_ret
      exact ⟨by first | rfl | (simp; done) | (simp [*]; done), by repeat (first | exact Drawn0.refl _ | apply Drawn0.step)⟩
  · rw [if_neg c2] at H
    have c2b0 : decide (0 ≤ a0) = false := decide_eq_false c2
    clear c2
    obtain rfl := Option.some.inj H
    go_enter Try.func21, Try.ntmps21
    go_wp2
    go_ret
    exact ⟨by first | rfl | (simp; done) | (simp [*]; done), by repeat (first | exact Drawn0.refl _ | apply Drawn0.step)⟩

/-! ### ranges_right: function 24 -/
mutual
def ranges_right.j0 : Nat → Bool → Int → Int → Int → Option (Bool)
  | 0, _, _, _, _ => none
  | k + 1, x18, x114000, x114001, x114002 => if x18 = true then (some false) else (if (wrap64 ((wrap64 ((wrap64 (x114002)) + x114001)) - x114000)) > 1114111 then (ranges_right.j1 k (wrap64 ((wrap64 ((wrap64 (x114002)) + x114001)) - x114000)) true x114000 x114001 x114002) else ((ucs_Scalar.f x114002).bind fun t114 => (if t114 = true then ((ucs_Scalar.f (wrap32 (wrap64 ((wrap64 ((wrap64 (x114002)) + x114001)) - x114000)))).bind fun t115 => (ranges_right.j1 k (wrap64 ((wrap64 ((wrap64 (x114002)) + x114001)) - x114000)) (!t115) x114000 x114001 x114002)) else (ranges_right.j1 k (wrap64 ((wrap64 ((wrap64 (x114002)) + x114001)) - x114000)) true x114000 x114001 x114002))))
def ranges_right.j1 : Nat → Int → Bool → Int → Int → Int → Option (Bool)
  | 0, _, _, _, _, _ => none
  | k + 1, x3, x41, x114000, x114001, x114002 => if x41 = true then (some false) else (some ((decide (x114002 < 55296)) == (decide (x3 < 55296))))
end
def ranges_right.f (k : Nat) (a0_0 : Int) (a0_1 : Int) (a0_2 : Int) : Option (Bool) := if a0_0 < 0 then (ranges_right.j0 k true a0_0 a0_1 a0_2) else (if a0_1 > 16777215 then (ranges_right.j0 k true a0_0 a0_1 a0_2) else (ranges_right.j0 k (decide (a0_0 > a0_1)) a0_0 a0_1 a0_2))
theorem ranges_right.mono_l : ∀ k, (∀ y0 y1 y2 y3, LeO (ranges_right.j0 k y0 y1 y2 y3) (ranges_right.j0 (k + 1) y0 y1 y2 y3)) ∧ (∀ y0 y1 y2 y3 y4, LeO (ranges_right.j1 k y0 y1 y2 y3 y4) (ranges_right.j1 (k + 1) y0 y1 y2 y3 y4))
  | 0 => ⟨fun _ _ _ _ r h => by simp [ranges_right.j0] at h, fun _ _ _ _ _ r h => by simp [ranges_right.j1] at h⟩
  | k + 1 => by
    obtain ⟨ih0, ih1⟩ := ranges_right.mono_l k
    refine ⟨?_, ?_⟩
    · intro y0 y1 y2 y3
      unfold ranges_right.j0
      repeat' first
      | (with_reducible exact ih0 _ _ _ _)
      | (with_reducible exact ih1 _ _ _ _ _)
      | (with_reducible exact LeO.refl _)
      | (with_reducible exact LeO.none _)
      | (with_reducible refine LeO.ite ?_ ?_)
      | (with_reducible refine LeO.bind ?_ (fun _ => ?_))
      | exact ih0 _ _ _ _
      | exact ih1 _ _ _ _ _
      | exact LeO.none _
      | refine LeO.ite ?_ ?_
      | refine LeO.bind ?_ (fun _ => ?_)
    · intro y0 y1 y2 y3 y4
      unfold ranges_right.j1
      repeat' first
      | (with_reducible exact ih0 _ _ _ _)
      | (with_reducible exact ih1 _ _ _ _ _)
      | (with_reducible exact LeO.refl _)
      | (with_reducible exact LeO.none _)
      | (with_reducible refine LeO.ite ?_ ?_)
      | (with_reducible refine LeO.bind ?_ (fun _ => ?_))
      | exact ih0 _ _ _ _
      | exact ih1 _ _ _ _ _
      | exact LeO.none _
      | refine LeO.ite ?_ ?_
      | refine LeO.bind ?_ (fun _ => ?_)
theorem ranges_right.mono : ∀ a0 a1 a2 k, LeO (ranges_right.f k a0 a1 a2) (ranges_right.f (k + 1) a0 a1 a2) := by
  intro a0 a1 a2 k
  obtain ⟨ih0, ih1⟩ := ranges_right.mono_l k
  unfold ranges_right.f
  repeat' first
      | (with_reducible exact ih0 _ _ _ _)
      | (with_reducible exact ih1 _ _ _ _ _)
      | (with_reducible exact LeO.refl _)
      | (with_reducible exact LeO.none _)
      | (with_reducible refine LeO.ite ?_ ?_)
      | (with_reducible refine LeO.bind ?_ (fun _ => ?_))
      | exact ih0 _ _ _ _
      | exact ih1 _ _ _ _ _
      | exact LeO.none _
      | refine LeO.ite ?_ ?_
      | refine LeO.bind ?_ (fun _ => ?_)
set_option maxHeartbeats 8000000 in
set_option maxRecDepth 100000 in
theorem ranges_right.calls (k : Nat) (a0_0 : Int) (a0_1 : Int) (a0_2 : Int) (r : Bool) (w : World) (h : ranges_right.f k a0_0 a0_1 a0_2 = some r) :
    Calls Try.prog 24 #[.agg #[.int .i64 a0_0, .int .i64 a0_1, .int .i32 a0_2]] w fun e w' => e = .returned (.bool r) ∧ Below w.heap.size w w' := by
  have hu44 := Try.underlying44
  have HB := Aside0.mk (Below.refl w.heap.size w)
  have H : (if a0_0 < 0 then (ranges_right.j0 k true a0_0 a0_1 a0_2) else (if a0_1 > 16777215 then (ranges_right.j0 k true a0_0 a0_1 a0_2) else (ranges_right.j0 k (decide (a0_0 > a0_1)) a0_0 a0_1 a0_2))) = some r := h
  clear h
  have HC2 := Aside0.mk H
  clear H
  go_enter Try.func24, Try.ntmps24
  go_upto_region 1 with (first | ((with_reducible refine gate_dst (N := 1) rfl ?_); refine box_event ?hg (N := 1) ?hd (cs := #[.int .i64 a0_0, .int .i64 a0_1, .int .i32 a0_2]) (t := 44) ?hr ?_; (case hd => rfl); (case hg => rfl); (case hr => first | (go_simp; done) | (go_simp; rfl)); intro gb113 hg w3 hbox hb; have n0_ := Aside0.mk (below_step (by repeat (first | (with_reducible first | exact HB.out | apply below_alloc | apply pw_below_drewN | apply below_drew1) | exact HB.out)) hb); have n1_ := Aside0.mk (hbox); have n2_ := Aside0.mk ((by rw [hg]; exact (below_size (by repeat (first | (with_reducible first | exact HB.out | apply below_alloc | apply pw_below_drewN | apply below_drew1) | exact HB.out))) : w.heap.size ≤ gb113)); have n3_ := Aside0.mk ((by rw [hg]; exact (below_size (by repeat (first | (with_reducible first | exact HB.out | apply below_alloc | apply pw_below_drewN | apply below_drew1) | exact HB.out))) : w.heap.size ≤ gb113)); clear HB; have HB := n0_; have BK113 := n1_; have GW113 := n2_; have GE113 := n3_; clear n0_ n1_ n2_ n3_; clear hb hbox hg))
  (try simp only [Act.put, List.setIfInBounds_toArray, List.set_cons_zero, List.set_cons_succ])
  go_cut [18] (fun v18 wc => ∃ (kq : Nat) (x18_1 : Bool), v18 = .bool x18_1 ∧ Aside0 (ranges_right.j0 kq x18_1 a0_0 a0_1 a0_2 = some r) ∧ Aside0 (kq ≤ k) ∧ Aside0 (wc.heap[gb113]? = some (.cells #[.int .i64 a0_0, .int .i64 a0_1, .int .i32 a0_2] 44 (0, 0))) ∧ Aside0 (Below w.heap.size w wc))
  case first =>
    have H := HC2.out
    clear HC2
    by_cases c4 : a0_0 < 0
    · rw [if_pos c4] at H
      have c4b0 : decide (a0_0 < 0) = true := decide_eq_true c4
      clear c4
      (first | rw [c4b0] | (simp only [i64_w, i32_w]; rw [c4b0]) | skip)
      have H' := Aside0.mk H
      clear H
      have hcz5_0 : w3.cell? ⟨gb113, 0, none⟩ = some (.int .i64 a0_0) := (blk_cell BK113.out 0).trans rfl
      have hcz5_1 : w3.cell? ⟨gb113, 1, none⟩ = some (.int .i64 a0_1) := (blk_cell BK113.out 1).trans rfl
      have hcz5_2 : w3.cell? ⟨gb113, 2, none⟩ = some (.int .i32 a0_2) := (blk_cell BK113.out 2).trans rfl
      have hfz5_0 := blk_frozen BK113.out 0
      have hfz5_1 := blk_frozen BK113.out 1
      have hfz5_2 := blk_frozen BK113.out 2
      go_wp2
      go_meet
      case rel => exact ⟨_, (true), (by first | rfl | (simp; done) | (simp [*]; done)), H', ⟨by first | omega | exact Nat.le_refl _⟩, ⟨by (with_reducible repeat (first | refine blk_drewN ?_ _ | refine blk_drew ?_ | refine blk_alloc ?_ _)); exact BK113.out⟩, ⟨by repeat (first | (with_reducible first | exact HB.out | apply below_alloc | apply pw_below_drewN | apply below_drew1 | refine below_set ?_ GE113.out) | exact HB.out)⟩⟩
    · rw [if_neg c4] at H
      have c4b0 : decide (a0_0 < 0) = false := decide_eq_false c4
      clear c4
      (first | rw [c4b0] | (simp only [i64_w, i32_w]; rw [c4b0]) | skip)
      by_cases c6 : a0_1 > 16777215
      · rw [if_pos c6] at H
        have c6b0 : decide (16777215 < a0_1) = true := decide_eq_true c6
        clear c6
        have H' := Aside0.mk H
        clear H
        have hcz7_0 : w3.cell? ⟨gb113, 0, none⟩ = some (.int .i64 a0_0) := (blk_cell BK113.out 0).trans rfl
        have hcz7_1 : w3.cell? ⟨gb113, 1, none⟩ = some (.int .i64 a0_1) := (blk_cell BK113.out 1).trans rfl
        have hcz7_2 : w3.cell? ⟨gb113, 2, none⟩ = some (.int .i32 a0_2) := (blk_cell BK113.out 2).trans rfl
        have hfz7_0 := blk_frozen BK113.out 0
        have hfz7_1 := blk_frozen BK113.out 1
        have hfz7_2 := blk_frozen BK113.out 2
        go_wp2
        go_meet
        case rel => exact ⟨_, (true), (by first | rfl | (simp; done) | (simp [*]; done)), H', ⟨by first | omega | exact Nat.le_refl _⟩, ⟨by (with_reducible repeat (first | refine blk_drewN ?_ _ | refine blk_drew ?_ | refine blk_alloc ?_ _)); exact BK113.out⟩, ⟨by repeat (first | (with_reducible first | exact HB.out | apply below_alloc | apply pw_below_drewN | apply below_drew1 | refine below_set ?_ GE113.out) | exact HB.out)⟩⟩
      · rw [if_neg c6] at H
        have c6b0 : decide (16777215 < a0_1) = false := decide_eq_false c6
        clear c6
        have H' := Aside0.mk H
        clear H
        have hcz8_0 : w3.cell? ⟨gb113, 0, none⟩ = some (.int .i64 a0_0) := (blk_cell BK113.out 0).trans rfl
        have hcz8_1 : w3.cell? ⟨gb113, 1, none⟩ = some (.int .i64 a0_1) := (blk_cell BK113.out 1).trans rfl
        have hcz8_2 : w3.cell? ⟨gb113, 2, none⟩ = some (.int .i32 a0_2) := (blk_cell BK113.out 2).trans rfl
        have hfz8_0 := blk_frozen BK113.out 0
        have hfz8_1 := blk_frozen BK113.out 1
        have hfz8_2 := blk_frozen BK113.out 2
        go_wp2
        go_meet
        case rel => exact ⟨_, (decide (a0_0 > a0_1)), (by first | rfl | (simp; done) | (simp [*]; done)), H', ⟨by first | omega | exact Nat.le_refl _⟩, ⟨by (with_reducible repeat (first | refine blk_drewN ?_ _ | refine blk_drew ?_ | refine blk_alloc ?_ _)); exact BK113.out⟩, ⟨by repeat (first | (with_reducible first | exact HB.out | apply below_alloc | apply pw_below_drewN | apply below_drew1 | refine below_set ?_ GE113.out) | exact HB.out)⟩⟩
  case rest =>
    clear HC2
    try clear c2
    try clear p2
    try clear c4
    try clear c4b0
    try clear c6
    try clear c6b0
    try clear hcz5_0
    try clear hcz5_1
    try clear hcz5_2
    try clear hcz7_0
    try clear hcz7_1
    try clear hcz7_2
    try clear hcz8_0
    try clear hcz8_1
    try clear hcz8_2
    try clear hfz5_0
    try clear hfz5_1
    try clear hfz5_2
    try clear hfz7_0
    try clear hfz7_1
    try clear hfz7_2
    try clear hfz8_0
    try clear hfz8_1
    try clear hfz8_2
    obtain ⟨kq, x18_1, rfl, HA, HJ1, BK113, HB⟩ := hcut
    cases kq with
    | zero => exact absurd HA.out (by simp [ranges_right.j0])
    | succ kj1 =>
      have H := HA.out
      clear HA
      simp only [ranges_right.j0] at H
      by_cases c9 : x18_1 = true
      · subst c9
        have H1 : (some false) = some r := by rw [if_pos rfl] at H; exact H
        clear H
        have H := H1
        clear H1
        obtain rfl := Option.some.inj H
        go_wp2
        go_ret
        exact ⟨by first | rfl | (simp [errW_none, errW_some] <;> rfl) | (simp [*, errW_none, errW_some] <;> rfl), by repeat (first | (with_reducible first | exact HB.out | apply below_alloc | apply pw_below_drewN | apply below_drew1 | refine below_set ?_ GE113.out) | exact HB.out)⟩
      · replace c9 := Bool.eq_false_iff.mpr c9
        subst c9
        have H1 : (if (wrap64 ((wrap64 ((wrap64 (a0_2)) + a0_1)) - a0_0)) > 1114111 then (ranges_right.j1 kj1 (wrap64 ((wrap64 ((wrap64 (a0_2)) + a0_1)) - a0_0)) true a0_0 a0_1 a0_2) else ((ucs_Scalar.f a0_2).bind fun t114 => (if t114 = true then ((ucs_Scalar.f (wrap32 (wrap64 ((wrap64 ((wrap64 (a0_2)) + a0_1)) - a0_0)))).bind fun t115 => (ranges_right.j1 kj1 (wrap64 ((wrap64 ((wrap64 (a0_2)) + a0_1)) - a0_0)) (!t115) a0_0 a0_1 a0_2)) else (ranges_right.j1 kj1 (wrap64 ((wrap64 ((wrap64 (a0_2)) + a0_1)) - a0_0)) true a0_0 a0_1 a0_2)))) = some r := by rw [if_neg (show ¬ (false = true) by decide)] at H; exact H
        clear H
        have H := H1
        clear H1
        have HC10 := Aside0.mk H
        clear H
        have hcz11_0 : wc.cell? ⟨gb113, 0, none⟩ = some (.int .i64 a0_0) := (blk_cell BK113.out 0).trans rfl
        have hcz11_1 : wc.cell? ⟨gb113, 1, none⟩ = some (.int .i64 a0_1) := (blk_cell BK113.out 1).trans rfl
        have hcz11_2 : wc.cell? ⟨gb113, 2, none⟩ = some (.int .i32 a0_2) := (blk_cell BK113.out 2).trans rfl
        have hfz11_0 := blk_frozen BK113.out 0
        have hfz11_1 := blk_frozen BK113.out 1
        have hfz11_2 := blk_frozen BK113.out 2
        go_upto_region 4 with (fail)
        go_cut [41] (fun v41 wc => ∃ (kq : Nat) (x41_9 : Bool), v41 = .bool x41_9 ∧ Aside0 (ranges_right.j1 kq (wrap64 ((wrap64 ((wrap64 (a0_2)) + a0_1)) - a0_0)) x41_9 a0_0 a0_1 a0_2 = some r) ∧ Aside0 (kq ≤ kj1) ∧ Aside0 (wc.heap[gb113]? = some (.cells #[.int .i64 a0_0, .int .i64 a0_1, .int .i32 a0_2] 44 (0, 0))) ∧ Aside0 (Below w.heap.size w wc))
        case first =>
          have H := HC10.out
          clear HC10
          by_cases c12 : (wrap64 ((wrap64 ((wrap64 (a0_2)) + a0_1)) - a0_0)) > 1114111
          · rw [if_pos c12] at H
            have c12b0 : decide (1114111 < (wrap64 ((wrap64 ((wrap64 (a0_2)) + a0_1)) - a0_0))) = true := decide_eq_true c12
            clear c12
            (first | rw [c12b0] | (simp only [i64_w, i32_w]; rw [c12b0]) | skip)
            have H' := Aside0.mk H
            clear H
            go_wp2
            go_meet
            case rel => exact ⟨_, (true), (by first | rfl | (simp; done) | (simp [*]; done)), H', ⟨by have := HJ1.out; first | omega | exact Nat.le_refl _⟩, ⟨by (with_reducible repeat (first | refine blk_drewN ?_ _ | refine blk_drew ?_ | refine blk_alloc ?_ _)); exact BK113.out⟩, ⟨by repeat (first | (with_reducible first | exact HB.out | apply below_alloc | apply pw_below_drewN | apply below_drew1 | refine below_set ?_ GE113.out) | exact HB.out)⟩⟩
          · rw [if_neg c12] at H
            have c12b0 : decide (1114111 < (wrap64 ((wrap64 ((wrap64 (a0_2)) + a0_1)) - a0_0))) = false := decide_eq_false c12
            clear c12
            (first | rw [c12b0] | (simp only [i64_w, i32_w]; rw [c12b0]) | skip)
            replace H := Option.bind_eq_some_iff.mp H
            obtain ⟨t114, A130, H⟩ := H
            replace H : (if t114 = true then ((ucs_Scalar.f (wrap32 (wrap64 ((wrap64 ((wrap64 (a0_2)) + a0_1)) - a0_0)))).bind fun t115 => (ranges_right.j1 kj1 (wrap64 ((wrap64 ((wrap64 (a0_2)) + a0_1)) - a0_0)) (!t115) a0_0 a0_1 a0_2)) else (ranges_right.j1 kj1 (wrap64 ((wrap64 ((wrap64 (a0_2)) + a0_1)) - a0_0)) true a0_0 a0_1 a0_2)) = some r := H
            have A13 := Aside0.mk A130
            clear A130
            by_cases c14 : t114 = true
            · subst c14
              have H1 : ((ucs_Scalar.f (wrap32 (wrap64 ((wrap64 ((wrap64 (a0_2)) + a0_1)) - a0_0)))).bind fun t115 => (ranges_right.j1 kj1 (wrap64 ((wrap64 ((wrap64 (a0_2)) + a0_1)) - a0_0)) (!t115) a0_0 a0_1 a0_2)) = some r := by rw [if_pos rfl] at H; exact H
              clear H
              have H := H1
              clear H1
              replace H := Option.bind_eq_some_iff.mp H
              obtain ⟨t115, A150, H⟩ := H
              replace H : (ranges_right.j1 kj1 (wrap64 ((wrap64 ((wrap64 (a0_2)) + a0_1)) - a0_0)) (!t115) a0_0 a0_1 a0_2) = some r := H
              have A15 := Aside0.mk A150
              clear A150
              have H' := Aside0.mk H
              clear H
              have hcz16_0 : wc.cell? ⟨gb113, 0, none⟩ = some (.int .i64 a0_0) := (blk_cell BK113.out 0).trans rfl
              have hcz16_1 : wc.cell? ⟨gb113, 1, none⟩ = some (.int .i64 a0_1) := (blk_cell BK113.out 1).trans rfl
              have hcz16_2 : wc.cell? ⟨gb113, 2, none⟩ = some (.int .i32 a0_2) := (blk_cell BK113.out 2).trans rfl
              have hfz16_0 := blk_frozen BK113.out 0
              have hfz16_1 := blk_frozen BK113.out 1
              have hfz16_2 := blk_frozen BK113.out 2
              go_wp2_with (first | (go_at_call 21; (with_reducible refine (ucs_Scalar.calls a0_2 true _ A13.out).mono ?_); rintro e w' ⟨rfl, ⟨nd, rfl⟩⟩) | (go_at_call 21; (with_reducible refine (ucs_Scalar.calls (wrap32 (wrap64 ((wrap64 ((wrap64 (a0_2)) + a0_1)) - a0_0))) t115 _ A15.out).mono ?_); rintro e w' ⟨rfl, ⟨nd, rfl⟩⟩))
              go_meet
              case rel => exact ⟨_, (!t115), (by first | rfl | (simp; done) | (simp [*]; done)), H', ⟨by have := HJ1.out; first | omega | exact Nat.le_refl _⟩, ⟨by (with_reducible repeat (first | refine blk_drewN ?_ _ | refine blk_drew ?_ | refine blk_alloc ?_ _)); exact BK113.out⟩, ⟨by repeat (first | (with_reducible first | exact HB.out | apply below_alloc | apply pw_below_drewN | apply below_drew1 | refine below_set ?_ GE113.out) | exact HB.out)⟩⟩
            · replace c14 := Bool.eq_false_iff.mpr c14
              subst c14
              have H1 : (ranges_right.j1 kj1 (wrap64 ((wrap64 ((wrap64 (a0_2)) + a0_1)) - a0_0)) true a0_0 a0_1 a0_2) = some r := by rw [if_neg (show ¬ (false = true) by decide)] at H; exact H
              clear H
              have H := H1
              clear H1
              have H' := Aside0.mk H
              clear H
              have hcz17_0 : wc.cell? ⟨gb113, 0, none⟩ = some (.int .i64 a0_0) := (blk_cell BK113.out 0).trans rfl
              have hcz17_1 : wc.cell? ⟨gb113, 1, none⟩ = some (.int .i64 a0_1) := (blk_cell BK113.out 1).trans rfl
              have hcz17_2 : wc.cell? ⟨gb113, 2, none⟩ = some (.int .i32 a0_2) := (blk_cell BK113.out 2).trans rfl
              have hfz17_0 := blk_frozen BK113.out 0
              have hfz17_1 := blk_frozen BK113.out 1
              have hfz17_2 := blk_frozen BK113.out 2
              go_wp2_with (first | (go_at_call 21; (with_reducible refine (ucs_Scalar.calls a0_2 false _ A13.out).mono ?_); rintro e w' ⟨rfl, ⟨nd, rfl⟩⟩))
              go_meet
              case rel => exact ⟨_, (true), (by first | rfl | (simp; done) | (simp [*]; done)), H', ⟨by have := HJ1.out; first | omega | exact Nat.le_refl _⟩, ⟨by (with_reducible repeat (first | refine blk_drewN ?_ _ | refine blk_drew ?_ | refine blk_alloc ?_ _)); exact BK113.out⟩, ⟨by repeat (first | (with_reducible first | exact HB.out | apply below_alloc | apply pw_below_drewN | apply below_drew1 | refine below_set ?_ GE113.out) | exact HB.out)⟩⟩
        case rest =>
          clear HC10
          try clear c1
          try clear c2
          try clear p2
          try clear p3
          try clear c4
          try clear c4b0
          try clear c6
          try clear c6b0
          try clear p6
          try clear c9
          try clear c12
          try clear c12b0
          try clear c14
          try clear hcz11_0
          try clear hcz11_1
          try clear hcz11_2
          try clear hcz16_0
          try clear hcz16_1
          try clear hcz16_2
          try clear hcz17_0
          try clear hcz17_1
          try clear hcz17_2
          try clear hcz5_0
          try clear hcz5_1
          try clear hcz5_2
          try clear hcz7_0
          try clear hcz7_1
          try clear hcz7_2
          try clear hcz8_0
          try clear hcz8_1
          try clear hcz8_2
          try clear hfz11_0
          try clear hfz11_1
          try clear hfz11_2
          try clear hfz16_0
          try clear hfz16_1
          try clear hfz16_2
          try clear hfz17_0
          try clear hfz17_1
          try clear hfz17_2
          try clear hfz5_0
          try clear hfz5_1
          try clear hfz5_2
          try clear hfz7_0
          try clear hfz7_1
          try clear hfz7_2
          try clear hfz8_0
          try clear hfz8_1
          try clear hfz8_2
          try clear p2
          obtain ⟨kq, x41_9, rfl, HA, HJ9, BK113, HB⟩ := hcut
          cases kq with
          | zero => exact absurd HA.out (by simp [ranges_right.j1])
          | succ kj9 =>
            have H := HA.out
            clear HA
            simp only [ranges_right.j1] at H
            by_cases c18 : x41_9 = true
            · subst c18
              have H1 : (some false) = some r := by rw [if_pos rfl] at H; exact H
              clear H
              have H := H1
              clear H1
              obtain rfl := Option.some.inj H
              go_wp2
              go_ret
              exact ⟨by first | rfl | (simp [errW_none, errW_some] <;> rfl) | (simp [*, errW_none, errW_some] <;> rfl), by repeat (first | (with_reducible first | exact HB.out | apply below_alloc | apply pw_below_drewN | apply below_drew1 | refine below_set ?_ GE113.out) | exact HB.out)⟩
            · replace c18 := Bool.eq_false_iff.mpr c18
              subst c18
              have H1 : (some ((decide (a0_2 < 55296)) == (decide ((wrap64 ((wrap64 ((wrap64 (a0_2)) + a0_1)) - a0_0)) < 55296)))) = some r := by rw [if_neg (show ¬ (false = true) by decide)] at H; exact H
              clear H
              have H := H1
              clear H1
              obtain rfl := Option.some.inj H
              have hcz19_0 : wc.cell? ⟨gb113, 0, none⟩ = some (.int .i64 a0_0) := (blk_cell BK113.out 0).trans rfl
              have hcz19_1 : wc.cell? ⟨gb113, 1, none⟩ = some (.int .i64 a0_1) := (blk_cell BK113.out 1).trans rfl
              have hcz19_2 : wc.cell? ⟨gb113, 2, none⟩ = some (.int .i32 a0_2) := (blk_cell BK113.out 2).trans rfl
              have hfz19_0 := blk_frozen BK113.out 0
              have hfz19_1 := blk_frozen BK113.out 1
              have hfz19_2 := blk_frozen BK113.out 2
              go_wp2
              go_ret
              exact ⟨by first | rfl | (simp [errW_none, errW_some] <;> rfl) | (simp [*, errW_none, errW_some] <;> rfl), by repeat (first | (with_reducible first | exact HB.out | apply below_alloc | apply pw_below_drewN | apply below_drew1 | refine below_set ?_ GE113.out) | exact HB.out)⟩

/-! ### ranges_Check: function 13 -/
def ranges_Check.l0 : Nat → Int → Int → List (S44) → Int → Int → Option (Int)
  | 0, _, _, _, _, _ => none
  | k + 1, x3, x4, x10, x11, x12 => if x12 < x11 then (if 0 ≤ x12 then (if x12 < (x10.length : Int) then ((ranges_right.f k ((rd_T44 x10 x12).f0) ((rd_T44 x10 x12).f1) ((rd_T44 x10 x12).f2)).bind fun t118 => (if t118 = true then (if ((rd_T44 x10 x12).f0) ≤ x4 then (some 3) else (ranges_Check.l0 k (wrap64 (x3 + (wrap64 ((wrap64 (((rd_T44 x10 x12).f1) - ((rd_T44 x10 x12).f0))) + 1)))) ((rd_T44 x10 x12).f1) x10 x11 (wrap64 (x12 + 1)))) else (some 3))) else (none)) else (none)) else (if x3 > 65536 then (some 8) else (some 0))
def ranges_Check.f (k : Nat) (l0 : List (S44)) : Option (Int) := if (l0.length : Int) > 65536 then (some 8) else (ranges_Check.l0 k 0 (-1) l0 (l0.length : Int) 0)
theorem ranges_Check.mono_l : ∀ k, (∀ y0 y1 y2 y3 y4, LeO (ranges_Check.l0 k y0 y1 y2 y3 y4) (ranges_Check.l0 (k + 1) y0 y1 y2 y3 y4))
  | 0 => fun _ _ _ _ _ r h => by simp [ranges_Check.l0] at h
  | k + 1 => by
    have ih0 := ranges_Check.mono_l k
    · intro y0 y1 y2 y3 y4
      unfold ranges_Check.l0
      repeat' first
      | (with_reducible exact ih0 _ _ _ _ _)
      | (with_reducible exact ranges_right.mono _ _ _ _)
      | (with_reducible exact LeO.refl _)
      | (with_reducible exact LeO.none _)
      | (with_reducible refine LeO.ite ?_ ?_)
      | (with_reducible refine LeO.bind ?_ (fun _ => ?_))
      | exact ih0 _ _ _ _ _
      | exact ranges_right.mono _ _ _ _
      | exact LeO.none _
      | refine LeO.ite ?_ ?_
      | refine LeO.bind ?_ (fun _ => ?_)
theorem ranges_Check.mono : ∀ a0 k, LeO (ranges_Check.f k a0) (ranges_Check.f (k + 1) a0) := by
  intro a0 k
  have ih0 := ranges_Check.mono_l k
  unfold ranges_Check.f
  repeat' first
      | (with_reducible exact ih0 _ _ _ _ _)
      | (with_reducible exact ranges_right.mono _ _ _ _)
      | (with_reducible exact LeO.refl _)
      | (with_reducible exact LeO.none _)
      | (with_reducible refine LeO.ite ?_ ?_)
      | (with_reducible refine LeO.bind ?_ (fun _ => ?_))
      | exact ih0 _ _ _ _ _
      | exact ranges_right.mono _ _ _ _
      | exact LeO.none _
      | refine LeO.ite ?_ ?_
      | refine LeO.bind ?_ (fun _ => ?_)
set_option maxHeartbeats 8000000 in
set_option maxRecDepth 100000 in
theorem ranges_Check.calls (k : Nat) (A0 : Option Addr) (c0 : Nat) (l0 : List (S44)) (r : Int) (w : World) (hr0 : Kd.C k44 w A0 l0.length l0) (hc0 : l0.length ≤ c0) (h : ranges_Check.f k l0 = some r) :
    Calls Try.prog 13 #[.slice A0 l0.length c0] w fun e w' => e = .returned (.int .i64 r) ∧ Below w.heap.size w w' := by
  have hu44 := Try.underlying44
  have HR0 := Aside0.mk hr0
  have HC0 := Aside0.mk hc0
  clear hr0 hc0
  have HB := Aside0.mk (Below.refl w.heap.size w)
  have H : (if (l0.length : Int) > 65536 then (some 8) else (ranges_Check.l0 k 0 (-1) l0 (l0.length : Int) 0)) = some r := h
  clear h
  by_cases c2 : (l0.length : Int) > 65536
  · rw [if_pos c2] at H
    have c2b0 : decide (65536 < (l0.length : Int)) = true := decide_eq_true c2
    have c2b1 : decide (65536 < l0.length) = true := decide_eq_true (by omega)
    clear c2
    obtain rfl := Option.some.inj H
    go_enter Try.func13, Try.ntmps13
    go_wp2
    go_ret
    exact ⟨by first | rfl | (simp [errW_none, errW_some] <;> rfl) | (simp [*, errW_none, errW_some] <;> rfl), by repeat (first | (with_reducible first | exact HB.out | apply below_alloc | apply pw_below_drewN | apply below_drew1) | exact HB.out)⟩
  · rw [if_neg c2] at H
    have c2b0 : decide (65536 < (l0.length : Int)) = false := decide_eq_false c2
    have c2b1 : decide (65536 < l0.length) = false := decide_eq_false (by omega)
    clear c2
    have H' := Aside0.mk H
    clear H
    go_enter Try.func13, Try.ntmps13
    go_wp2
    go_loopg [3, 4, 12] k (fun kq v3 v4 v12 w' => ∃ (x3_1 : Int) (x4_1 : Int) (x12_1 : Int), v3 = .int .i64 x3_1 ∧ v4 = .int .i64 x4_1 ∧ v12 = .int .i64 x12_1 ∧ Aside0 (ranges_Check.l0 kq x3_1 x4_1 l0 (l0.length : Int) x12_1 = some r) ∧ Aside0 (kq ≤ k) ∧ Aside0 (Below w.heap.size w w'))
    case atStart => exact ⟨(0), ((-1)), (0), (by first | rfl | (simp; done) | (simp [*]; done)), (by first | rfl | (simp; done) | (simp [*]; done)), (by first | rfl | (simp; done) | (simp [*]; done)), H', ⟨Nat.le_refl _⟩, ⟨by repeat (first | (with_reducible first | exact HB.out | apply below_alloc | apply pw_below_drewN | apply below_drew1) | exact HB.out)⟩⟩
    case round =>
      clear H'
      try clear c1
      try clear c2
      try clear c2b0
      try clear c2b1
      try clear p2
      obtain ⟨x3_1, x4_1, x12_1, rfl, rfl, rfl, HA, HK1, HB⟩ := hrel
      cases gk with
      | zero => exact absurd HA.out (by simp [ranges_Check.l0])
      | succ k1 =>
        have H := HA.out
        clear HA
        simp only [ranges_Check.l0] at H
        by_cases c3 : x12_1 < (l0.length : Int)
        · rw [if_pos c3] at H
          have c3b0 : decide (x12_1 < (l0.length : Int)) = true := decide_eq_true c3
          clear c3
          by_cases c4 : 0 ≤ x12_1
          · rw [if_pos c4] at H
            have c4b0 : decide (0 ≤ x12_1) = true := decide_eq_true c4
            clear c4
            by_cases c5 : x12_1 < (l0.length : Int)
            · rw [if_pos c5] at H
              have c5b0 : decide (x12_1 < (l0.length : Int)) = true := decide_eq_true c5
              clear c5
              replace H := Option.bind_eq_some_iff.mp H
              obtain ⟨t118, A60, H⟩ := H
              replace H : (if t118 = true then (if ((rd_T44 l0 x12_1).f0) ≤ x4_1 then (some 3) else (ranges_Check.l0 k1 (wrap64 (x3_1 + (wrap64 ((wrap64 (((rd_T44 l0 x12_1).f1) - ((rd_T44 l0 x12_1).f0))) + 1)))) ((rd_T44 l0 x12_1).f1) l0 (l0.length : Int) (wrap64 (x12_1 + 1)))) else (some 3)) = some r := H
              have A6 := Aside0.mk A60
              clear A60
              by_cases c7 : t118 = true
              · subst c7
                have H1 : (if ((rd_T44 l0 x12_1).f0) ≤ x4_1 then (some 3) else (ranges_Check.l0 k1 (wrap64 (x3_1 + (wrap64 ((wrap64 (((rd_T44 l0 x12_1).f1) - ((rd_T44 l0 x12_1).f0))) + 1)))) ((rd_T44 l0 x12_1).f1) l0 (l0.length : Int) (wrap64 (x12_1 + 1)))) = some r := by rw [if_pos rfl] at H; exact H
                clear H
                have H := H1
                clear H1
                by_cases c8 : ((rd_T44 l0 x12_1).f0) ≤ x4_1
                · rw [if_pos c8] at H
                  have c8b0 : decide (((rd_T44 l0 x12_1).f0) ≤ x4_1) = true := decide_eq_true c8
                  clear c8
                  obtain rfl := Option.some.inj H
                  have p116 : 0 ≤ (x12_1 : Int) := of_decide_eq_true (by first | (with_reducible assumption) | assumption)
                  have q116 : x12_1 < (l0.length : Int) := of_decide_eq_true (by first | (with_reducible assumption) | assumption)
                  obtain ⟨ad116, e116, hx116_0, hx116_1, hx116_2⟩ := at_T44 HR0.out x12_1 p116 q116
                  cases e116
                  replace hx116_0 := (HB.out.cell (World.block_lt_of_cell? w _ hx116_0)).trans hx116_0
                  replace hx116_1 := (HB.out.cell (World.block_lt_of_cell? w _ hx116_1)).trans hx116_1
                  replace hx116_2 := (HB.out.cell (World.block_lt_of_cell? w _ hx116_2)).trans hx116_2
                  replace p116 := eq_true p116
                  replace q116 := eq_true q116
                  go_wp2_with (first | ((with_reducible refine gate_dst (N := 6) rfl ?_); refine box_event ?hg (N := 6) ?hd (cs := #[.int .i64 0, .int .i64 0, .int .i32 0]) (t := 44) ?hr ?_; (case hd => rfl); (case hg => rfl); (case hr => first | (go_simp; done) | (go_simp; rfl)); intro gb117 hg w9 hbox hb; have n0_ := Aside0.mk (below_step (by repeat (first | (with_reducible first | exact HB.out | apply below_alloc | apply pw_below_drewN | apply below_drew1) | exact HB.out)) hb); have n1_ := Aside0.mk (hbox); have n2_ := Aside0.mk ((by rw [hg]; exact (below_size (by repeat (first | (with_reducible first | exact HB.out | apply below_alloc | apply pw_below_drewN | apply below_drew1) | exact HB.out))) : w.heap.size ≤ gb117)); have n3_ := Aside0.mk ((by rw [hg]; exact (below_size (by repeat (first | (with_reducible first | exact HB.out | apply below_alloc | apply pw_below_drewN | apply below_drew1) | exact HB.out))) : w.heap.size ≤ gb117)); clear HB; have HB := n0_; have BK117 := n1_; have GW117 := n2_; have GE117 := n3_; clear n0_ n1_ n2_ n3_; clear hb hbox hg; have hcz10_0 : w9.cell? ⟨gb117, 0, none⟩ = some (.int .i64 0) := (blk_cell BK117.out 0).trans rfl; have hcz10_1 : w9.cell? ⟨gb117, 1, none⟩ = some (.int .i64 0) := (blk_cell BK117.out 1).trans rfl; have hcz10_2 : w9.cell? ⟨gb117, 2, none⟩ = some (.int .i32 0) := (blk_cell BK117.out 2).trans rfl; have hfz10_0 := blk_frozen BK117.out 0; have hfz10_1 := blk_frozen BK117.out 1; have hfz10_2 := blk_frozen BK117.out 2) | ((with_reducible refine gate_callee (f := 24) rfl ?_); refine goesL_ (some 17) rfl rfl Try.func24 (by kernel_rfl) rfl #[.agg #[.int .i64 ((rd_T44 l0 x12_1).f0), .int .i64 ((rd_T44 l0 x12_1).f1), .int .i32 ((rd_T44 l0 x12_1).f2)]] rfl (by (try simp only [List.map_toArray, List.map_cons, List.map_nil]); first | done | rfl | (simp only [List.length_drop, List.length_take]; rfl)) ?_; (with_reducible refine (ranges_right.calls k1 ((rd_T44 l0 x12_1).f0) ((rd_T44 l0 x12_1).f1) ((rd_T44 l0 x12_1).f2) true _ A6.out).mono ?_); rintro e w11 ⟨rfl, hb⟩; refine ⟨_, rfl, ?_⟩; have n0_ := Aside0.mk (blk_below (g := gb117) (o := .cells #[.int .i64 ((rd_T44 l0 x12_1).f0), .int .i64 ((rd_T44 l0 x12_1).f1), .int .i32 ((rd_T44 l0 x12_1).f2)] 44 (0, 0)) (by (with_reducible repeat (first | refine blk_drewN ?_ _ | refine blk_drew ?_ | refine blk_alloc ?_ _)); refine blk_put (cs := #[.int .i64 ((rd_T44 l0 x12_1).f0), .int .i64 ((rd_T44 l0 x12_1).f1), .int .i32 0]) ?_ 2 _ rfl; (with_reducible repeat (first | refine blk_drewN ?_ _ | refine blk_drew ?_ | refine blk_alloc ?_ _)); refine blk_put (cs := #[.int .i64 ((rd_T44 l0 x12_1).f0), .int .i64 0, .int .i32 0]) ?_ 1 _ rfl; (with_reducible repeat (first | refine blk_drewN ?_ _ | refine blk_drew ?_ | refine blk_alloc ?_ _)); refine blk_put (cs := #[.int .i64 0, .int .i64 0, .int .i32 0]) ?_ 0 _ rfl; (with_reducible repeat (first | refine blk_drewN ?_ _ | refine blk_drew ?_ | refine blk_alloc ?_ _)); exact BK117.out) hb); have n1_ := Aside0.mk (below_step (by repeat (first | (with_reducible first | exact HB.out | apply below_alloc | apply pw_below_drewN | apply below_drew1 | refine below_set ?_ GE117.out) | exact HB.out)) hb); clear BK117; clear HB; have BK117 := n0_; have HB := n1_; clear n0_ n1_; (try clear hb); (try clear hb2); (try clear hk); (try clear hi); have hcz12_0 : w11.cell? ⟨gb117, 0, none⟩ = some (.int .i64 ((rd_T44 l0 x12_1).f0)) := (blk_cell BK117.out 0).trans rfl; have hcz12_1 : w11.cell? ⟨gb117, 1, none⟩ = some (.int .i64 ((rd_T44 l0 x12_1).f1)) := (blk_cell BK117.out 1).trans rfl; have hcz12_2 : w11.cell? ⟨gb117, 2, none⟩ = some (.int .i32 ((rd_T44 l0 x12_1).f2)) := (blk_cell BK117.out 2).trans rfl; have hfz12_0 := blk_frozen BK117.out 0; have hfz12_1 := blk_frozen BK117.out 1; have hfz12_2 := blk_frozen BK117.out 2))
                  go_ret
                  exact ⟨by first | rfl | (simp [errW_none, errW_some] <;> rfl) | (simp [*, errW_none, errW_some] <;> rfl), by repeat (first | (with_reducible first | exact HB.out | apply below_alloc | apply pw_below_drewN | apply below_drew1 | refine below_set ?_ GE117.out) | exact HB.out)⟩
                · rw [if_neg c8] at H
                  have c8b0 : decide (((rd_T44 l0 x12_1).f0) ≤ x4_1) = false := decide_eq_false c8
                  clear c8
                  have H' := Aside0.mk H
                  clear H
                  have p116 : 0 ≤ (x12_1 : Int) := of_decide_eq_true (by first | (with_reducible assumption) | assumption)
                  have q116 : x12_1 < (l0.length : Int) := of_decide_eq_true (by first | (with_reducible assumption) | assumption)
                  obtain ⟨ad116, e116, hx116_0, hx116_1, hx116_2⟩ := at_T44 HR0.out x12_1 p116 q116
                  cases e116
                  replace hx116_0 := (HB.out.cell (World.block_lt_of_cell? w _ hx116_0)).trans hx116_0
                  replace hx116_1 := (HB.out.cell (World.block_lt_of_cell? w _ hx116_1)).trans hx116_1
                  replace hx116_2 := (HB.out.cell (World.block_lt_of_cell? w _ hx116_2)).trans hx116_2
                  replace p116 := eq_true p116
                  replace q116 := eq_true q116
                  go_wp2_with (first | ((with_reducible refine gate_dst (N := 6) rfl ?_); refine box_event ?hg (N := 6) ?hd (cs := #[.int .i64 0, .int .i64 0, .int .i32 0]) (t := 44) ?hr ?_; (case hd => rfl); (case hg => rfl); (case hr => first | (go_simp; done) | (go_simp; rfl)); intro gb117 hg w13 hbox hb; have n0_ := Aside0.mk (below_step (by repeat (first | (with_reducible first | exact HB.out | apply below_alloc | apply pw_below_drewN | apply below_drew1) | exact HB.out)) hb); have n1_ := Aside0.mk (hbox); have n2_ := Aside0.mk ((by rw [hg]; exact (below_size (by repeat (first | (with_reducible first | exact HB.out | apply below_alloc | apply pw_below_drewN | apply below_drew1) | exact HB.out))) : w.heap.size ≤ gb117)); have n3_ := Aside0.mk ((by rw [hg]; exact (below_size (by repeat (first | (with_reducible first | exact HB.out | apply below_alloc | apply pw_below_drewN | apply below_drew1) | exact HB.out))) : w.heap.size ≤ gb117)); clear HB; have HB := n0_; have BK117 := n1_; have GW117 := n2_; have GE117 := n3_; clear n0_ n1_ n2_ n3_; clear hb hbox hg; have hcz14_0 : w13.cell? ⟨gb117, 0, none⟩ = some (.int .i64 0) := (blk_cell BK117.out 0).trans rfl; have hcz14_1 : w13.cell? ⟨gb117, 1, none⟩ = some (.int .i64 0) := (blk_cell BK117.out 1).trans rfl; have hcz14_2 : w13.cell? ⟨gb117, 2, none⟩ = some (.int .i32 0) := (blk_cell BK117.out 2).trans rfl; have hfz14_0 := blk_frozen BK117.out 0; have hfz14_1 := blk_frozen BK117.out 1; have hfz14_2 := blk_frozen BK117.out 2) | ((with_reducible refine gate_callee (f := 24) rfl ?_); refine goesL_ (some 17) rfl rfl Try.func24 (by kernel_rfl) rfl #[.agg #[.int .i64 ((rd_T44 l0 x12_1).f0), .int .i64 ((rd_T44 l0 x12_1).f1), .int .i32 ((rd_T44 l0 x12_1).f2)]] rfl (by (try simp only [List.map_toArray, List.map_cons, List.map_nil]); first | done | rfl | (simp only [List.length_drop, List.length_take]; rfl)) ?_; (with_reducible refine (ranges_right.calls k1 ((rd_T44 l0 x12_1).f0) ((rd_T44 l0 x12_1).f1) ((rd_T44 l0 x12_1).f2) true _ A6.out).mono ?_); rintro e w15 ⟨rfl, hb⟩; refine ⟨_, rfl, ?_⟩; have n0_ := Aside0.mk (blk_below (g := gb117) (o := .cells #[.int .i64 ((rd_T44 l0 x12_1).f0), .int .i64 ((rd_T44 l0 x12_1).f1), .int .i32 ((rd_T44 l0 x12_1).f2)] 44 (0, 0)) (by (with_reducible repeat (first | refine blk_drewN ?_ _ | refine blk_drew ?_ | refine blk_alloc ?_ _)); refine blk_put (cs := #[.int .i64 ((rd_T44 l0 x12_1).f0), .int .i64 ((rd_T44 l0 x12_1).f1), .int .i32 0]) ?_ 2 _ rfl; (with_reducible repeat (first | refine blk_drewN ?_ _ | refine blk_drew ?_ | refine blk_alloc ?_ _)); refine blk_put (cs := #[.int .i64 ((rd_T44 l0 x12_1).f0), .int .i64 0, .int .i32 0]) ?_ 1 _ rfl; (with_reducible repeat (first | refine blk_drewN ?_ _ | refine blk_drew ?_ | refine blk_alloc ?_ _)); refine blk_put (cs := #[.int .i64 0, .int .i64 0, .int .i32 0]) ?_ 0 _ rfl; (with_reducible repeat (first | refine blk_drewN ?_ _ | refine blk_drew ?_ | refine blk_alloc ?_ _)); exact BK117.out) hb); have n1_ := Aside0.mk (below_step (by repeat (first | (with_reducible first | exact HB.out | apply below_alloc | apply pw_below_drewN | apply below_drew1 | refine below_set ?_ GE117.out) | exact HB.out)) hb); clear BK117; clear HB; have BK117 := n0_; have HB := n1_; clear n0_ n1_; (try clear hb); (try clear hb2); (try clear hk); (try clear hi); have hcz16_0 : w15.cell? ⟨gb117, 0, none⟩ = some (.int .i64 ((rd_T44 l0 x12_1).f0)) := (blk_cell BK117.out 0).trans rfl; have hcz16_1 : w15.cell? ⟨gb117, 1, none⟩ = some (.int .i64 ((rd_T44 l0 x12_1).f1)) := (blk_cell BK117.out 1).trans rfl; have hcz16_2 : w15.cell? ⟨gb117, 2, none⟩ = some (.int .i32 ((rd_T44 l0 x12_1).f2)) := (blk_cell BK117.out 2).trans rfl; have hfz16_0 := blk_frozen BK117.out 0; have hfz16_1 := blk_frozen BK117.out 1; have hfz16_2 := blk_frozen BK117.out 2))
                  go_roundg k1
                  case measure => have := HK1.out; omega
                  case rel => exact ⟨(wrap64 (x3_1 + (wrap64 ((wrap64 (((rd_T44 l0 x12_1).f1) - ((rd_T44 l0 x12_1).f0))) + 1)))), ((rd_T44 l0 x12_1).f1), (wrap64 (x12_1 + 1)), (by first | rfl | (simp; done) | (simp [*]; done)), (by first | rfl | (simp; done) | (simp [*]; done)), (by first | rfl | (simp; done) | (simp [*]; done)), H', ⟨by have := HK1.out; omega⟩, ⟨by repeat (first | (with_reducible first | exact HB.out | apply below_alloc | apply pw_below_drewN | apply below_drew1 | refine below_set ?_ GE117.out) | exact HB.out)⟩⟩
              · replace c7 := Bool.eq_false_iff.mpr c7
                subst c7
                have H1 : (some 3) = some r := by rw [if_neg (show ¬ (false = true) by decide)] at H; exact H
                clear H
                have H := H1
                clear H1
                obtain rfl := Option.some.inj H
                have p116 : 0 ≤ (x12_1 : Int) := of_decide_eq_true (by first | (with_reducible assumption) | assumption)
                have q116 : x12_1 < (l0.length : Int) := of_decide_eq_true (by first | (with_reducible assumption) | assumption)
                obtain ⟨ad116, e116, hx116_0, hx116_1, hx116_2⟩ := at_T44 HR0.out x12_1 p116 q116
                cases e116
                replace hx116_0 := (HB.out.cell (World.block_lt_of_cell? w _ hx116_0)).trans hx116_0
                replace hx116_1 := (HB.out.cell (World.block_lt_of_cell? w _ hx116_1)).trans hx116_1
                replace hx116_2 := (HB.out.cell (World.block_lt_of_cell? w _ hx116_2)).trans hx116_2
                replace p116 := eq_true p116
                replace q116 := eq_true q116
                go_wp2_with (first | ((with_reducible refine gate_dst (N := 6) rfl ?_); refine box_event ?hg (N := 6) ?hd (cs := #[.int .i64 0, .int .i64 0, .int .i32 0]) (t := 44) ?hr ?_; (case hd => rfl); (case hg => rfl); (case hr => first | (go_simp; done) | (go_simp; rfl)); intro gb117 hg w17 hbox hb; have n0_ := Aside0.mk (below_step (by repeat (first | (with_reducible first | exact HB.out | apply below_alloc | apply pw_below_drewN | apply below_drew1) | exact HB.out)) hb); have n1_ := Aside0.mk (hbox); have n2_ := Aside0.mk ((by rw [hg]; exact (below_size (by repeat (first | (with_reducible first | exact HB.out | apply below_alloc | apply pw_below_drewN | apply below_drew1) | exact HB.out))) : w.heap.size ≤ gb117)); have n3_ := Aside0.mk ((by rw [hg]; exact (below_size (by repeat (first | (with_reducible first | exact HB.out | apply below_alloc | apply pw_below_drewN | apply below_drew1) | exact HB.out))) : w.heap.size ≤ gb117)); clear HB; have HB := n0_; have BK117 := n1_; have GW117 := n2_; have GE117 := n3_; clear n0_ n1_ n2_ n3_; clear hb hbox hg; have hcz18_0 : w17.cell? ⟨gb117, 0, none⟩ = some (.int .i64 0) := (blk_cell BK117.out 0).trans rfl; have hcz18_1 : w17.cell? ⟨gb117, 1, none⟩ = some (.int .i64 0) := (blk_cell BK117.out 1).trans rfl; have hcz18_2 : w17.cell? ⟨gb117, 2, none⟩ = some (.int .i32 0) := (blk_cell BK117.out 2).trans rfl; have hfz18_0 := blk_frozen BK117.out 0; have hfz18_1 := blk_frozen BK117.out 1; have hfz18_2 := blk_frozen BK117.out 2) | ((with_reducible refine gate_callee (f := 24) rfl ?_); refine goesL_ (some 17) rfl rfl Try.func24 (by kernel_rfl) rfl #[.agg #[.int .i64 ((rd_T44 l0 x12_1).f0), .int .i64 ((rd_T44 l0 x12_1).f1), .int .i32 ((rd_T44 l0 x12_1).f2)]] rfl (by (try simp only [List.map_toArray, List.map_cons, List.map_nil]); first | done | rfl | (simp only [List.length_drop, List.length_take]; rfl)) ?_; (with_reducible refine (ranges_right.calls k1 ((rd_T44 l0 x12_1).f0) ((rd_T44 l0 x12_1).f1) ((rd_T44 l0 x12_1).f2) false _ A6.out).mono ?_); rintro e w19 ⟨rfl, hb⟩; refine ⟨_, rfl, ?_⟩; have n0_ := Aside0.mk (blk_below (g := gb117) (o := .cells #[.int .i64 ((rd_T44 l0 x12_1).f0), .int .i64 ((rd_T44 l0 x12_1).f1), .int .i32 ((rd_T44 l0 x12_1).f2)] 44 (0, 0)) (by (with_reducible repeat (first | refine blk_drewN ?_ _ | refine blk_drew ?_ | refine blk_alloc ?_ _)); refine blk_put (cs := #[.int .i64 ((rd_T44 l0 x12_1).f0), .int .i64 ((rd_T44 l0 x12_1).f1), .int .i32 0]) ?_ 2 _ rfl; (with_reducible repeat (first | refine blk_drewN ?_ _ | refine blk_drew ?_ | refine blk_alloc ?_ _)); refine blk_put (cs := #[.int .i64 ((rd_T44 l0 x12_1).f0), .int .i64 0, .int .i32 0]) ?_ 1 _ rfl; (with_reducible repeat (first | refine blk_drewN ?_ _ | refine blk_drew ?_ | refine blk_alloc ?_ _)); refine blk_put (cs := #[.int .i64 0, .int .i64 0, .int .i32 0]) ?_ 0 _ rfl; (with_reducible repeat (first | refine blk_drewN ?_ _ | refine blk_drew ?_ | refine blk_alloc ?_ _)); exact BK117.out) hb); have n1_ := Aside0.mk (below_step (by repeat (first | (with_reducible first | exact HB.out | apply below_alloc | apply pw_below_drewN | apply below_drew1 | refine below_set ?_ GE117.out) | exact HB.out)) hb); clear BK117; clear HB; have BK117 := n0_; have HB := n1_; clear n0_ n1_; (try clear hb); (try clear hb2); (try clear hk); (try clear hi)))
                go_ret
                exact ⟨by first | rfl | (simp [errW_none, errW_some] <;> rfl) | (simp [*, errW_none, errW_some] <;> rfl), by repeat (first | (with_reducible first | exact HB.out | apply below_alloc | apply pw_below_drewN | apply below_drew1 | refine below_set ?_ GE117.out) | exact HB.out)⟩
            · rw [if_neg c5] at H
              exact absurd H (by simp)
          · rw [if_neg c4] at H
            exact absurd H (by simp)
        · rw [if_neg c3] at H
          have c3b0 : decide (x12_1 < (l0.length : Int)) = false := decide_eq_false c3
          clear c3
          by_cases c20 : x3_1 > 65536
          · rw [if_pos c20] at H
            have c20b0 : decide (65536 < x3_1) = true := decide_eq_true c20
            clear c20
            obtain rfl := Option.some.inj H
            go_wp2
            go_ret
            exact ⟨by first | rfl | (simp [errW_none, errW_some] <;> rfl) | (simp [*, errW_none, errW_some] <;> rfl), by repeat (first | (with_reducible first | exact HB.out | apply below_alloc | apply pw_below_drewN | apply below_drew1) | exact HB.out)⟩
          · rw [if_neg c20] at H
            have c20b0 : decide (65536 < x3_1) = false := decide_eq_false c20
            clear c20
            obtain rfl := Option.some.inj H
            go_wp2
            go_ret
            exact ⟨by first | rfl | (simp [errW_none, errW_some] <;> rfl) | (simp [*, errW_none, errW_some] <;> rfl), by repeat (first | (with_reducible first | exact HB.out | apply below_alloc | apply pw_below_drewN | apply below_drew1) | exact HB.out)⟩

end Go.Proofs.Ytnapldildjnchaa.PRangesTells
