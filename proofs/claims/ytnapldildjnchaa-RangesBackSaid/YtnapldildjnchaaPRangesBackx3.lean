/- RangesBack: what the functions answer, and their walks; what is not printed is given by YtnapldildjnchaaGRangesBack. Written by a program of ours over the print. -/
import Derived.Test.YtnapldildjnchaaPRangesBackx0
import Derived.Test.YtnapldildjnchaaPRangesBackx2
namespace Go.Proofs.Ytnapldildjnchaa.PRangesBack
open Go.RowKit Go.Proofs.YtnapldildjnchaaW.PrintWords Go.Proofs.YtnapldildjnchaaW.PrintLast Go.Proofs.YtnapldildjnchaaW.PrintMore
attribute [local go_sem] max2_int min2_int max_two min_two max_three min_three max_four min_four   -- for this text's walks alone
set_option linter.unusedVariables false
set_option linter.unusedSimpArgs false

/-! ### ranges_right: function 24 -/
def ranges_right.j0 : Nat → Bool → Int → Int → Int → Option (Bool)
  | 0, _, _, _, _ => none
  | k + 1, x18, x121000, x121001, x121002 => if x18 = true then (some false) else (if (wrap64 ((wrap64 ((wrap64 (x121002)) + x121001)) - x121000)) > 1114111 then (some false) else ((ucs_Scalar.f x121002).bind fun t121 => (if t121 = true then ((ucs_Scalar.f (wrap32 (wrap64 ((wrap64 ((wrap64 (x121002)) + x121001)) - x121000)))).bind fun t122 => (if t122 = true then (some ((decide (x121002 < 55296)) == (decide ((wrap64 ((wrap64 ((wrap64 (x121002)) + x121001)) - x121000)) < 55296)))) else (some false))) else (some false))))
def ranges_right.f (k : Nat) (a0_0 : Int) (a0_1 : Int) (a0_2 : Int) : Option (Bool) := if a0_0 < 0 then (ranges_right.j0 k true a0_0 a0_1 a0_2) else (if a0_1 > 16777215 then (ranges_right.j0 k true a0_0 a0_1 a0_2) else (ranges_right.j0 k (decide (a0_0 > a0_1)) a0_0 a0_1 a0_2))
theorem ranges_right.mono_l : ∀ k, (∀ y0 y1 y2 y3, LeO (ranges_right.j0 k y0 y1 y2 y3) (ranges_right.j0 (k + 1) y0 y1 y2 y3))
  | 0 => fun _ _ _ _ r h => by simp [ranges_right.j0] at h
  | k + 1 => by
    have ih0 := ranges_right.mono_l k
    · intro y0 y1 y2 y3
      unfold ranges_right.j0
      repeat' first
      | (with_reducible exact ih0 _ _ _ _)
      | (with_reducible exact LeO.refl _)
      | (with_reducible exact LeO.none _)
      | (with_reducible refine LeO.ite ?_ ?_)
      | (with_reducible refine LeO.bind ?_ (fun _ => ?_))
      | exact ih0 _ _ _ _
      | exact LeO.none _
      | refine LeO.ite ?_ ?_
      | refine LeO.bind ?_ (fun _ => ?_)
theorem ranges_right.mono : ∀ a0 a1 a2 k, LeO (ranges_right.f k a0 a1 a2) (ranges_right.f (k + 1) a0 a1 a2) := by
  intro a0 a1 a2 k
  have ih0 := ranges_right.mono_l k
  unfold ranges_right.f
  repeat' first
      | (with_reducible exact ih0 _ _ _ _)
      | (with_reducible exact LeO.refl _)
      | (with_reducible exact LeO.none _)
      | (with_reducible refine LeO.ite ?_ ?_)
      | (with_reducible refine LeO.bind ?_ (fun _ => ?_))
      | exact ih0 _ _ _ _
      | exact LeO.none _
      | refine LeO.ite ?_ ?_
      | refine LeO.bind ?_ (fun _ => ?_)
set_option maxHeartbeats 8000000 in
set_option maxRecDepth 100000 in
theorem ranges_right.calls (k : Nat) (a0_0 : Int) (a0_1 : Int) (a0_2 : Int) (r : Bool) (w : World) (h : ranges_right.f k a0_0 a0_1 a0_2 = some r) :
    Calls Try.prog 24 #[.agg #[.int .i64 a0_0, .int .i64 a0_1, .int .i32 a0_2]] w fun e w' => e = .returned (.bool r) ∧ Below w.heap.size w w' := by
  have hu44 := Try.underlying44
  have HB := Aside0.mk (Below.refl w.heap.size w)
  have H : (if a0_0 < 0 then (ranges_right.j0 k true a0_0 a0_1 a0_2) else (if a0_1 > 16777215 then (ranges_right.j0 k true a0_0 a0_1 a0_2) else (ranges_right.j0 k (decide (a0_0 > a0_1)) a0_0 a0_1 a0_2))) = some r := h
  clear h
  have HC2 := Aside0.mk H
  clear H
  go_enter Try.func24, Try.ntmps24
  go_upto_region 1 with (first | ((with_reducible refine gate_dst (N := 1) rfl ?_); refine box_event ?hg (N := 1) ?hd (cs := #[.int .i64 a0_0, .int .i64 a0_1, .int .i32 a0_2]) (t := 44) ?hr ?_; (case hd => rfl); (case hg => rfl); (case hr => first | (go_simp; done) | (go_simp; rfl)); intro gb120 hg w3 hbox hb; have n0_ := Aside0.mk (below_step (by repeat (first | (with_reducible first | exact HB.out | apply below_alloc | apply pw_below_drewN | apply below_drew1) | exact HB.out)) hb); have n1_ := Aside0.mk (hbox); have n2_ := Aside0.mk ((by rw [hg]; exact (below_size (by repeat (first | (with_reducible first | exact HB.out | apply below_alloc | apply pw_below_drewN | apply below_drew1) | exact HB.out))) : w.heap.size ≤ gb120)); have n3_ := Aside0.mk ((by rw [hg]; exact (below_size (by repeat (first | (with_reducible first | exact HB.out | apply below_alloc | apply pw_below_drewN | apply below_drew1) | exact HB.out))) : w.heap.size ≤ gb120)); clear HB; have HB := n0_; have BK120 := n1_; have GW120 := n2_; have GE120 := n3_; clear n0_ n1_ n2_ n3_; clear hb hbox hg))
  (try simp only [Act.put, List.setIfInBounds_toArray, List.set_cons_zero, List.set_cons_succ])
  go_cut [18] (fun v18 wc => ∃ (kq : Nat) (x18_1 : Bool), v18 = .bool x18_1 ∧ Aside0 (ranges_right.j0 kq x18_1 a0_0 a0_1 a0_2 = some r) ∧ Aside0 (kq ≤ k) ∧ Aside0 (wc.heap[gb120]? = some (.cells #[.int .i64 a0_0, .int .i64 a0_1, .int .i32 a0_2] 44 (0, 0))) ∧ Aside0 (Below w.heap.size w wc))
  case first =>
    have H := HC2.out
    clear HC2
    by_cases c4 : a0_0 < 0
    · rw [if_pos c4] at H
      have c4b0 : decide (a0_0 < 0) = true := decide_eq_true c4
      clear c4
      (first | rw [c4b0] | (simp only [i64_w, i32_w]; rw [c4b0]) | skip)
      have H' := Aside0.mk H
      clear H
      have hcz5_0 : w3.cell? ⟨gb120, 0, none⟩ = some (.int .i64 a0_0) := (blk_cell BK120.out 0).trans rfl
      have hcz5_1 : w3.cell? ⟨gb120, 1, none⟩ = some (.int .i64 a0_1) := (blk_cell BK120.out 1).trans rfl
      have hcz5_2 : w3.cell? ⟨gb120, 2, none⟩ = some (.int .i32 a0_2) := (blk_cell BK120.out 2).trans rfl
      have hfz5_0 := blk_frozen BK120.out 0
      have hfz5_1 := blk_frozen BK120.out 1
      have hfz5_2 := blk_frozen BK120.out 2
      go_wp2
      go_meet
      case rel => exact ⟨_, (true), (by first | rfl | (simp; done) | (simp [*]; done)), H', ⟨by first | omega | exact Nat.le_refl _⟩, ⟨by (with_reducible repeat (first | refine blk_drewN ?_ _ | refine blk_drew ?_ | refine blk_alloc ?_ _)); exact BK120.out⟩, ⟨by repeat (first | (with_reducible first | exact HB.out | apply below_alloc | apply pw_below_drewN | apply below_drew1 | refine below_set ?_ GE120.out) | exact HB.out)⟩⟩
    · rw [if_neg c4] at H
      have c4b0 : decide (a0_0 < 0) = false := decide_eq_false c4
      clear c4
      (first | rw [c4b0] | (simp only [i64_w, i32_w]; rw [c4b0]) | skip)
      by_cases c6 : a0_1 > 16777215
      · rw [if_pos c6] at H
        have c6b0 : decide (16777215 < a0_1) = true := decide_eq_true c6
        clear c6
        have H' := Aside0.mk H
        clear H
        have hcz7_0 : w3.cell? ⟨gb120, 0, none⟩ = some (.int .i64 a0_0) := (blk_cell BK120.out 0).trans rfl
        have hcz7_1 : w3.cell? ⟨gb120, 1, none⟩ = some (.int .i64 a0_1) := (blk_cell BK120.out 1).trans rfl
        have hcz7_2 : w3.cell? ⟨gb120, 2, none⟩ = some (.int .i32 a0_2) := (blk_cell BK120.out 2).trans rfl
        have hfz7_0 := blk_frozen BK120.out 0
        have hfz7_1 := blk_frozen BK120.out 1
        have hfz7_2 := blk_frozen BK120.out 2
        go_wp2
        go_meet
        case rel => exact ⟨_, (true), (by first | rfl | (simp; done) | (simp [*]; done)), H', ⟨by first | omega | exact Nat.le_refl _⟩, ⟨by (with_reducible repeat (first | refine blk_drewN ?_ _ | refine blk_drew ?_ | refine blk_alloc ?_ _)); exact BK120.out⟩, ⟨by repeat (first | (with_reducible first | exact HB.out | apply below_alloc | apply pw_below_drewN | apply below_drew1 | refine below_set ?_ GE120.out) | exact HB.out)⟩⟩
      · rw [if_neg c6] at H
        have c6b0 : decide (16777215 < a0_1) = false := decide_eq_false c6
        clear c6
        have H' := Aside0.mk H
        clear H
        have hcz8_0 : w3.cell? ⟨gb120, 0, none⟩ = some (.int .i64 a0_0) := (blk_cell BK120.out 0).trans rfl
        have hcz8_1 : w3.cell? ⟨gb120, 1, none⟩ = some (.int .i64 a0_1) := (blk_cell BK120.out 1).trans rfl
        have hcz8_2 : w3.cell? ⟨gb120, 2, none⟩ = some (.int .i32 a0_2) := (blk_cell BK120.out 2).trans rfl
        have hfz8_0 := blk_frozen BK120.out 0
        have hfz8_1 := blk_frozen BK120.out 1
        have hfz8_2 := blk_frozen BK120.out 2
        go_wp2
        go_meet
        case rel => exact ⟨_, (decide (a0_0 > a0_1)), (by first | rfl | (simp; done) | (simp [*]; done)), H', ⟨by first | omega | exact Nat.le_refl _⟩, ⟨by (with_reducible repeat (first | refine blk_drewN ?_ _ | refine blk_drew ?_ | refine blk_alloc ?_ _)); exact BK120.out⟩, ⟨by repeat (first | (with_reducible first | exact HB.out | apply below_alloc | apply pw_below_drewN | apply below_drew1 | refine below_set ?_ GE120.out) | exact HB.out)⟩⟩
  case rest =>
    clear HC2
    try clear c2
    try clear p2
    try clear c4
    try clear c4b0
    try clear c6
    try clear c6b0
    try clear hcz5_0
    try clear hcz5_1
    try clear hcz5_2
    try clear hcz7_0
    try clear hcz7_1
    try clear hcz7_2
    try clear hcz8_0
    try clear hcz8_1
    try clear hcz8_2
    try clear hfz5_0
    try clear hfz5_1
    try clear hfz5_2
    try clear hfz7_0
    try clear hfz7_1
    try clear hfz7_2
    try clear hfz8_0
    try clear hfz8_1
    try clear hfz8_2
    obtain ⟨kq, x18_1, rfl, HA, HJ1, BK120, HB⟩ := hcut
    cases kq with
    | zero => exact absurd HA.out (by simp [ranges_right.j0])
    | succ kj1 =>
      have H := HA.out
      clear HA
      simp only [ranges_right.j0] at H
      by_cases c9 : x18_1 = true
      · subst c9
        have H1 : (some false) = some r := by rw [if_pos rfl] at H; exact H
        clear H
        have H := H1
        clear H1
        obtain rfl := Option.some.inj H
        go_wp2
        go_ret
        exact ⟨by first | rfl | (simp [errW_none, errW_some] <;> rfl) | (simp [*, errW_none, errW_some] <;> rfl), by repeat (first | (with_reducible first | exact HB.out | apply below_alloc | apply pw_below_drewN | apply below_drew1 | refine below_set ?_ GE120.out) | exact HB.out)⟩
      · replace c9 := Bool.eq_false_iff.mpr c9
        subst c9
        have H1 : (if (wrap64 ((wrap64 ((wrap64 (a0_2)) + a0_1)) - a0_0)) > 1114111 then (some false) else ((ucs_Scalar.f a0_2).bind fun t121 => (if t121 = true then ((ucs_Scalar.f (wrap32 (wrap64 ((wrap64 ((wrap64 (a0_2)) + a0_1)) - a0_0)))).bind fun t122 => (if t122 = true then (some ((decide (a0_2 < 55296)) == (decide ((wrap64 ((wrap64 ((wrap64 (a0_2)) + a0_1)) - a0_0)) < 55296)))) else (some false))) else (some false)))) = some r := by rw [if_neg (show ¬ (false = true) by decide)] at H; exact H
        clear H
        have H := H1
        clear H1
        by_cases c10 : (wrap64 ((wrap64 ((wrap64 (a0_2)) + a0_1)) - a0_0)) > 1114111
        · rw [if_pos c10] at H
          have c10b0 : decide (1114111 < (wrap64 ((wrap64 ((wrap64 (a0_2)) + a0_1)) - a0_0))) = true := decide_eq_true c10
          clear c10
          obtain rfl := Option.some.inj H
          have hcz11_0 : wc.cell? ⟨gb120, 0, none⟩ = some (.int .i64 a0_0) := (blk_cell BK120.out 0).trans rfl
          have hcz11_1 : wc.cell? ⟨gb120, 1, none⟩ = some (.int .i64 a0_1) := (blk_cell BK120.out 1).trans rfl
          have hcz11_2 : wc.cell? ⟨gb120, 2, none⟩ = some (.int .i32 a0_2) := (blk_cell BK120.out 2).trans rfl
          have hfz11_0 := blk_frozen BK120.out 0
          have hfz11_1 := blk_frozen BK120.out 1
          have hfz11_2 := blk_frozen BK120.out 2
          go_wp2
          go_ret
          exact ⟨by first | rfl | (simp [errW_none, errW_some] <;> rfl) | (simp [*, errW_none, errW_some] <;> rfl), by repeat (first | (with_reducible first | exact HB.out | apply below_alloc | apply pw_below_drewN | apply below_drew1 | refine below_set ?_ GE120.out) | exact HB.out)⟩
        · rw [if_neg c10] at H
          have c10b0 : decide (1114111 < (wrap64 ((wrap64 ((wrap64 (a0_2)) + a0_1)) - a0_0))) = false := decide_eq_false c10
          clear c10
          replace H := Option.bind_eq_some_iff.mp H
          obtain ⟨t121, A120, H⟩ := H
          replace H : (if t121 = true then ((ucs_Scalar.f (wrap32 (wrap64 ((wrap64 ((wrap64 (a0_2)) + a0_1)) - a0_0)))).bind fun t122 => (if t122 = true then (some ((decide (a0_2 < 55296)) == (decide ((wrap64 ((wrap64 ((wrap64 (a0_2)) + a0_1)) - a0_0)) < 55296)))) else (some false))) else (some false)) = some r := H
          have A12 := Aside0.mk A120
          clear A120
          by_cases c13 : t121 = true
          · subst c13
            have H1 : ((ucs_Scalar.f (wrap32 (wrap64 ((wrap64 ((wrap64 (a0_2)) + a0_1)) - a0_0)))).bind fun t122 => (if t122 = true then (some ((decide (a0_2 < 55296)) == (decide ((wrap64 ((wrap64 ((wrap64 (a0_2)) + a0_1)) - a0_0)) < 55296)))) else (some false))) = some r := by rw [if_pos rfl] at H; exact H
            clear H
            have H := H1
            clear H1
            replace H := Option.bind_eq_some_iff.mp H
            obtain ⟨t122, A140, H⟩ := H
            replace H : (if t122 = true then (some ((decide (a0_2 < 55296)) == (decide ((wrap64 ((wrap64 ((wrap64 (a0_2)) + a0_1)) - a0_0)) < 55296)))) else (some false)) = some r := H
            have A14 := Aside0.mk A140
            clear A140
            by_cases c15 : t122 = true
            · subst c15
              have H1 : (some ((decide (a0_2 < 55296)) == (decide ((wrap64 ((wrap64 ((wrap64 (a0_2)) + a0_1)) - a0_0)) < 55296)))) = some r := by rw [if_pos rfl] at H; exact H
              clear H
              have H := H1
              clear H1
              obtain rfl := Option.some.inj H
              have hcz16_0 : wc.cell? ⟨gb120, 0, none⟩ = some (.int .i64 a0_0) := (blk_cell BK120.out 0).trans rfl
              have hcz16_1 : wc.cell? ⟨gb120, 1, none⟩ = some (.int .i64 a0_1) := (blk_cell BK120.out 1).trans rfl
              have hcz16_2 : wc.cell? ⟨gb120, 2, none⟩ = some (.int .i32 a0_2) := (blk_cell BK120.out 2).trans rfl
              have hfz16_0 := blk_frozen BK120.out 0
              have hfz16_1 := blk_frozen BK120.out 1
              have hfz16_2 := blk_frozen BK120.out 2
              go_wp2_with (first | (go_at_call 21; (with_reducible refine (ucs_Scalar.calls a0_2 true _ A12.out).mono ?_); rintro e w' ⟨rfl, ⟨nd, rfl⟩⟩) | (go_at_call 21; (with_reducible refine (ucs_Scalar.calls (wrap32 (wrap64 ((wrap64 ((wrap64 (a0_2)) + a0_1)) - a0_0))) true _ A14.out).mono ?_); rintro e w' ⟨rfl, ⟨nd, rfl⟩⟩))
              go_ret
              exact ⟨by first | rfl | (simp [errW_none, errW_some] <;> rfl) | (simp [*, errW_none, errW_some] <;> rfl), by repeat (first | (with_reducible first | exact HB.out | apply below_alloc | apply pw_below_drewN | apply below_drew1 | refine below_set ?_ GE120.out) | exact HB.out)⟩
            · replace c15 := Bool.eq_false_iff.mpr c15
              subst c15
              have H1 : (some false) = some r := by rw [if_neg (show ¬ (false = true) by decide)] at H; exact H
              clear H
              have H := H1
              clear H1
              obtain rfl := Option.some.inj H
              have hcz17_0 : wc.cell? ⟨gb120, 0, none⟩ = some (.int .i64 a0_0) := (blk_cell BK120.out 0).trans rfl
              have hcz17_1 : wc.cell? ⟨gb120, 1, none⟩ = some (.int .i64 a0_1) := (blk_cell BK120.out 1).trans rfl
              have hcz17_2 : wc.cell? ⟨gb120, 2, none⟩ = some (.int .i32 a0_2) := (blk_cell BK120.out 2).trans rfl
              have hfz17_0 := blk_frozen BK120.out 0
              have hfz17_1 := blk_frozen BK120.out 1
              have hfz17_2 := blk_frozen BK120.out 2
              go_wp2_with (first | (go_at_call 21; (with_reducible refine (ucs_Scalar.calls a0_2 true _ A12.out).mono ?_); rintro e w' ⟨rfl, ⟨nd, rfl⟩⟩) | (go_at_call 21; (with_reducible refine (ucs_Scalar.calls (wrap32 (wrap64 ((wrap64 ((wrap64 (a0_2)) + a0_1)) - a0_0))) false _ A14.out).mono ?_); rintro e w' ⟨rfl, ⟨nd, rfl⟩⟩))
              go_ret
              exact ⟨by first | rfl | (simp [errW_none, errW_some] <;> rfl) | (simp [*, errW_none, errW_some] <;> rfl), by repeat (first | (with_reducible first | exact HB.out | apply below_alloc | apply pw_below_drewN | apply below_drew1 | refine below_set ?_ GE120.out) | exact HB.out)⟩
          · replace c13 := Bool.eq_false_iff.mpr c13
            subst c13
            have H1 : (some false) = some r := by rw [if_neg (show ¬ (false = true) by decide)] at H; exact H
            clear H
            have H := H1
            clear H1
            obtain rfl := Option.some.inj H
            have hcz18_0 : wc.cell? ⟨gb120, 0, none⟩ = some (.int .i64 a0_0) := (blk_cell BK120.out 0).trans rfl
            have hcz18_1 : wc.cell? ⟨gb120, 1, none⟩ = some (.int .i64 a0_1) := (blk_cell BK120.out 1).trans rfl
            have hcz18_2 : wc.cell? ⟨gb120, 2, none⟩ = some (.int .i32 a0_2) := (blk_cell BK120.out 2).trans rfl
            have hfz18_0 := blk_frozen BK120.out 0
            have hfz18_1 := blk_frozen BK120.out 1
            have hfz18_2 := blk_frozen BK120.out 2
            go_wp2_with (first | (go_at_call 21; (with_reducible refine (ucs_Scalar.calls a0_2 false _ A12.out).mono ?_); rintro e w' ⟨rfl, ⟨nd, rfl⟩⟩))
            go_ret
            exact ⟨by first | rfl | (simp [errW_none, errW_some] <;> rfl) | (simp [*, errW_none, errW_some] <;> rfl), by repeat (first | (with_reducible first | exact HB.out | apply below_alloc | apply pw_below_drewN | apply below_drew1 | refine below_set ?_ GE120.out) | exact HB.out)⟩

/-! ### ranges_Check: function 13 -/
def ranges_Check.l0 : Nat → Int → Int → List (S44) → Int → Int → Option (Int)
  | 0, _, _, _, _, _ => none
  | k + 1, x3, x4, x10, x11, x12 => if x12 < x11 then (if 0 ≤ x12 then (if x12 < (x10.length : Int) then ((ranges_right.f k ((rd_T44 x10 x12).f0) ((rd_T44 x10 x12).f1) ((rd_T44 x10 x12).f2)).bind fun t125 => (if t125 = true then (if ((rd_T44 x10 x12).f0) ≤ x4 then (some 3) else (ranges_Check.l0 k (wrap64 (x3 + (wrap64 ((wrap64 (((rd_T44 x10 x12).f1) - ((rd_T44 x10 x12).f0))) + 1)))) ((rd_T44 x10 x12).f1) x10 x11 (wrap64 (x12 + 1)))) else (some 3))) else (none)) else (none)) else (if x3 > 65536 then (some 8) else (some 0))
def ranges_Check.f (k : Nat) (l0 : List (S44)) : Option (Int) := if (l0.length : Int) > 65536 then (some 8) else (ranges_Check.l0 k 0 (-1) l0 (l0.length : Int) 0)
theorem ranges_Check.mono_l : ∀ k, (∀ y0 y1 y2 y3 y4, LeO (ranges_Check.l0 k y0 y1 y2 y3 y4) (ranges_Check.l0 (k + 1) y0 y1 y2 y3 y4))
  | 0 => fun _ _ _ _ _ r h => by simp [ranges_Check.l0] at h
  | k + 1 => by
    have ih0 := ranges_Check.mono_l k
    · intro y0 y1 y2 y3 y4
      unfold ranges_Check.l0
      repeat' first
      | (with_reducible exact ih0 _ _ _ _ _)
      | (with_reducible exact ranges_right.mono _ _ _ _)
      | (with_reducible exact LeO.refl _)
      | (with_reducible exact LeO.none _)
      | (with_reducible refine LeO.ite ?_ ?_)
      | (with_reducible refine LeO.bind ?_ (fun _ => ?_))
      | exact ih0 _ _ _ _ _
      | exact ranges_right.mono _ _ _ _
      | exact LeO.none _
      | refine LeO.ite ?_ ?_
      | refine LeO.bind ?_ (fun _ => ?_)
theorem ranges_Check.mono : ∀ a0 k, LeO (ranges_Check.f k a0) (ranges_Check.f (k + 1) a0) := by
  intro a0 k
  have ih0 := ranges_Check.mono_l k
  unfold ranges_Check.f
  repeat' first
      | (with_reducible exact ih0 _ _ _ _ _)
      | (with_reducible exact ranges_right.mono _ _ _ _)
      | (with_reducible exact LeO.refl _)
      | (with_reducible exact LeO.none _)
      | (with_reducible refine LeO.ite ?_ ?_)
      | (with_reducible refine LeO.bind ?_ (fun _ => ?_))
      | exact ih0 _ _ _ _ _
      | exact ranges_right.mono _ _ _ _
      | exact LeO.none _
      | refine LeO.ite ?_ ?_
      | refine LeO.bind ?_ (fun _ => ?_)
set_option maxHeartbeats 8000000 in
set_option maxRecDepth 100000 in
theorem ranges_Check.calls (k : Nat) (A0 : Option Addr) (c0 : Nat) (l0 : List (S44)) (r : Int) (w : World) (hr0 : Kd.C k44 w A0 l0.length l0) (hc0 : l0.length ≤ c0) (h : ranges_Check.f k l0 = some r) :
    Calls Try.prog 13 #[.slice A0 l0.length c0] w fun e w' => e = .returned (.int .i64 r) ∧ Below w.heap.size w w' := by
  have hu44 := Try.underlying44
  have HR0 := Aside0.mk hr0
  have HC0 := Aside0.mk hc0
  clear hr0 hc0
  have HB := Aside0.mk (Below.refl w.heap.size w)
  have H : (if (l0.length : Int) > 65536 then (some 8) else (ranges_Check.l0 k 0 (-1) l0 (l0.length : Int) 0)) = some r := h
  clear h
  by_cases c2 : (l0.length : Int) > 65536
  · rw [if_pos c2] at H
    have c2b0 : decide (65536 < (l0.length : Int)) = true := decide_eq_true c2
    have c2b1 : decide (65536 < l0.length) = true := decide_eq_true (by omega)
    clear c2
    obtain rfl := Option.some.inj H
    go_enter Try.func13, Try.ntmps13
    go_wp2
    go_ret
    exact ⟨by first | rfl | (simp [errW_none, errW_some] <;> rfl) | (simp [*, errW_none, errW_some] <;> rfl), by repeat (first | (with_reducible first | exact HB.out | apply below_alloc | apply pw_below_drewN | apply below_drew1) | exact HB.out)⟩
  · rw [if_neg c2] at H
    have c2b0 : decide (65536 < (l0.length : Int)) = false := decide_eq_false c2
    have c2b1 : decide (65536 < l0.length) = false := decide_eq_false (by omega)
    clear c2
    have H' := Aside0.mk H
    clear H
    go_enter Try.func13, Try.ntmps13
    go_wp2
    go_loopg [3, 4, 12] k (fun kq v3 v4 v12 w' => ∃ (x3_1 : Int) (x4_1 : Int) (x12_1 : Int), v3 = .int .i64 x3_1 ∧ v4 = .int .i64 x4_1 ∧ v12 = .int .i64 x12_1 ∧ Aside0 (ranges_Check.l0 kq x3_1 x4_1 l0 (l0.length : Int) x12_1 = some r) ∧ Aside0 (kq ≤ k) ∧ Aside0 (Below w.heap.size w w'))
    case atStart => exact ⟨(0), ((-1)), (0), (by first | rfl | (simp; done) | (simp [*]; done)), (by first | rfl | (simp; done) | (simp [*]; done)), (by first | rfl | (simp; done) | (simp [*]; done)), H', ⟨Nat.le_refl _⟩, ⟨by repeat (first | (with_reducible first | exact HB.out | apply below_alloc | apply pw_below_drewN | apply below_drew1) | exact HB.out)⟩⟩
    case round =>
      clear H'
      try clear c1
      try clear c2
      try clear c2b0
      try clear c2b1
      try clear p2
      obtain ⟨x3_1, x4_1, x12_1, rfl, rfl, rfl, HA, HK1, HB⟩ := hrel
      cases gk with
      | zero => exact absurd HA.out (by simp [ranges_Check.l0])
      | succ k1 =>
        have H := HA.out
        clear HA
        simp only [ranges_Check.l0] at H
        by_cases c3 : x12_1 < (l0.length : Int)
        · rw [if_pos c3] at H
          have c3b0 : decide (x12_1 < (l0.length : Int)) = true := decide_eq_true c3
          clear c3
          by_cases c4 : 0 ≤ x12_1
          · rw [if_pos c4] at H
            have c4b0 : decide (0 ≤ x12_1) = true := decide_eq_true c4
            clear c4
            by_cases c5 : x12_1 < (l0.length : Int)
            · rw [if_pos c5] at H
              have c5b0 : decide (x12_1 < (l0.length : Int)) = true := decide_eq_true c5
              clear c5
              replace H := Option.bind_eq_some_iff.mp H
              obtain ⟨t125, A60, H⟩ := H
              replace H : (if t125 = true then (if ((rd_T44 l0 x12_1).f0) ≤ x4_1 then (some 3) else (ranges_Check.l0 k1 (wrap64 (x3_1 + (wrap64 ((wrap64 (((rd_T44 l0 x12_1).f1) - ((rd_T44 l0 x12_1).f0))) + 1)))) ((rd_T44 l0 x12_1).f1) l0 (l0.length : Int) (wrap64 (x12_1 + 1)))) else (some 3)) = some r := H
              have A6 := Aside0.mk A60
              clear A60
              by_cases c7 : t125 = true
              · subst c7
                have H1 : (if ((rd_T44 l0 x12_1).f0) ≤ x4_1 then (some 3) else (ranges_Check.l0 k1 (wrap64 (x3_1 + (wrap64 ((wrap64 (((rd_T44 l0 x12_1).f1) - ((rd_T44 l0 x12_1).f0))) + 1)))) ((rd_T44 l0 x12_1).f1) l0 (l0.length : Int) (wrap64 (x12_1 + 1)))) = some r := by rw [if_pos rfl] at H; exact H
                clear H
                have H := H1
                clear H1
                by_cases c8 : ((rd_T44 l0 x12_1).f0) ≤ x4_1
                · rw [if_pos c8] at H
                  have c8b0 : decide (((rd_T44 l0 x12_1).f0) ≤ x4_1) = true := decide_eq_true c8
                  clear c8
                  obtain rfl := Option.some.inj H
                  have p123 : 0 ≤ (x12_1 : Int) := of_decide_eq_true (by first | (with_reducible assumption) | assumption)
                  have q123 : x12_1 < (l0.length : Int) := of_decide_eq_true (by first | (with_reducible assumption) | assumption)
                  obtain ⟨ad123, e123, hx123_0, hx123_1, hx123_2⟩ := at_T44 HR0.out x12_1 p123 q123
                  cases e123
                  replace hx123_0 := (HB.out.cell (World.block_lt_of_cell? w _ hx123_0)).trans hx123_0
                  replace hx123_1 := (HB.out.cell (World.block_lt_of_cell? w _ hx123_1)).trans hx123_1
                  replace hx123_2 := (HB.out.cell (World.block_lt_of_cell? w _ hx123_2)).trans hx123_2
                  replace p123 := eq_true p123
                  replace q123 := eq_true q123
                  go_wp2_with (first | ((with_reducible refine gate_dst (N := 6) rfl ?_); refine box_event ?hg (N := 6) ?hd (cs := #[.int .i64 0, .int .i64 0, .int .i32 0]) (t := 44) ?hr ?_; (case hd => rfl); (case hg => rfl); (case hr => first | (go_simp; done) | (go_simp; rfl)); intro gb124 hg w9 hbox hb; have n0_ := Aside0.mk (below_step (by repeat (first | (with_reducible first | exact HB.out | apply below_alloc | apply pw_below_drewN | apply below_drew1) | exact HB.out)) hb); have n1_ := Aside0.mk (hbox); have n2_ := Aside0.mk ((by rw [hg]; exact (below_size (by repeat (first | (with_reducible first | exact HB.out | apply below_alloc | apply pw_below_drewN | apply below_drew1) | exact HB.out))) : w.heap.size ≤ gb124)); have n3_ := Aside0.mk ((by rw [hg]; exact (below_size (by repeat (first | (with_reducible first | exact HB.out | apply below_alloc | apply pw_below_drewN | apply below_drew1) | exact HB.out))) : w.heap.size ≤ gb124)); clear HB; have HB := n0_; have BK124 := n1_; have GW124 := n2_; have GE124 := n3_; clear n0_ n1_ n2_ n3_; clear hb hbox hg; have hcz10_0 : w9.cell? ⟨gb124, 0, none⟩ = some (.int .i64 0) := (blk_cell BK124.out 0).trans rfl; have hcz10_1 : w9.cell? ⟨gb124, 1, none⟩ = some (.int .i64 0) := (blk_cell BK124.out 1).trans rfl; have hcz10_2 : w9.cell? ⟨gb124, 2, none⟩ = some (.int .i32 0) := (blk_cell BK124.out 2).trans rfl; have hfz10_0 := blk_frozen BK124.out 0; have hfz10_1 := blk_frozen BK124.out 1; have hfz10_2 := blk_frozen BK124.out 2) | ((with_reducible refine gate_callee (f := 24) rfl ?_); refine goesL_ (some 17) rfl rfl Try.func24 (by kernel_rfl) rfl #[.agg #[.int .i64 ((rd_T44 l0 x12_1).f0), .int .i64 ((rd_T44 l0 x12_1).f1), .int .i32 ((rd_T44 l0 x12_1).f2)]] rfl (by (try simp only [List.map_toArray, List.map_cons, List.map_nil]); first | done | rfl | (simp only [List.length_drop, List.length_take]; rfl)) ?_; (with_reducible refine (ranges_right.calls k1 ((rd_T44 l0 x12_1).f0) ((rd_T44 l0 x12_1).f1) ((rd_T44 l0 x12_1).f2) true _ A6.out).mono ?_); rintro e w11 ⟨rfl, hb⟩; refine ⟨_, rfl, ?_⟩; have n0_ := Aside0.mk (blk_below (g := gb124) (o := .cells #[.int .i64 ((rd_T44 l0 x12_1).f0), .int .i64 ((rd_T44 l0 x12_1).f1), .int .i32 ((rd_T44 l0 x12_1).f2)] 44 (0, 0)) (by (with_reducible repeat (first | refine blk_drewN ?_ _ | refine blk_drew ?_ | refine blk_alloc ?_ _)); refine blk_put (cs := #[.int .i64 ((rd_T44 l0 x12_1).f0), .int .i64 ((rd_T44 l0 x12_1).f1), .int .i32 0]) ?_ 2 _ rfl; (with_reducible repeat (first | refine blk_drewN ?_ _ | refine blk_drew ?_ | refine blk_alloc ?_ _)); refine blk_put (cs := #[.int .i64 ((rd_T44 l0 x12_1).f0), .int .i64 0, .int .i32 0]) ?_ 1 _ rfl; (with_reducible repeat (first | refine blk_drewN ?_ _ | refine blk_drew ?_ | refine blk_alloc ?_ _)); refine blk_put (cs := #[.int .i64 0, .int .i64 0, .int .i32 0]) ?_ 0 _ rfl; (with_reducible repeat (first | refine blk_drewN ?_ _ | refine blk_drew ?_ | refine blk_alloc ?_ _)); exact BK124.out) hb); have n1_ := Aside0.mk (below_step (by repeat (first | (with_reducible first | exact HB.out | apply below_alloc | apply pw_below_drewN | apply below_drew1 | refine below_set ?_ GE124.out) | exact HB.out)) hb); clear BK124; clear HB; have BK124 := n0_; have HB := n1_; clear n0_ n1_; (try clear hb); (try clear hb2); (try clear hk); (try clear hi); have hcz12_0 : w11.cell? ⟨gb124, 0, none⟩ = some (.int .i64 ((rd_T44 l0 x12_1).f0)) := (blk_cell BK124.out 0).trans rfl; have hcz12_1 : w11.cell? ⟨gb124, 1, none⟩ = some (.int .i64 ((rd_T44 l0 x12_1).f1)) := (blk_cell BK124.out 1).trans rfl; have hcz12_2 : w11.cell? ⟨gb124, 2, none⟩ = some (.int .i32 ((rd_T44 l0 x12_1).f2)) := (blk_cell BK124.out 2).trans rfl; have hfz12_0 := blk_frozen BK124.out 0; have hfz12_1 := blk_frozen BK124.out 1; have hfz12_2 := blk_frozen BK124.out 2))
                  go_ret
                  exact ⟨by first | rfl | (simp [errW_none, errW_some] <;> rfl) | (simp [*, errW_none, errW_some] <;> rfl), by repeat (first | (with_reducible first | exact HB.out | apply below_alloc | apply pw_below_drewN | apply below_drew1 | refine below_set ?_ GE124.out) | exact HB.out)⟩
                · rw [if_neg c8] at H
                  have c8b0 : decide (((rd_T44 l0 x12_1).f0) ≤ x4_1) = false := decide_eq_false c8
                  clear c8
                  have H' := Aside0.mk H
                  clear H
                  have p123 : 0 ≤ (x12_1 : Int) := of_decide_eq_true (by first | (with_reducible assumption) | assumption)
                  have q123 : x12_1 < (l0.length : Int) := of_decide_eq_true (by first | (with_reducible assumption) | assumption)
                  obtain ⟨ad123, e123, hx123_0, hx123_1, hx123_2⟩ := at_T44 HR0.out x12_1 p123 q123
                  cases e123
                  replace hx123_0 := (HB.out.cell (World.block_lt_of_cell? w _ hx123_0)).trans hx123_0
                  replace hx123_1 := (HB.out.cell (World.block_lt_of_cell? w _ hx123_1)).trans hx123_1
                  replace hx123_2 := (HB.out.cell (World.block_lt_of_cell? w _ hx123_2)).trans hx123_2
                  replace p123 := eq_true p123
                  replace q123 := eq_true q123
                  go_wp2_with (first | ((with_reducible refine gate_dst (N := 6) rfl ?_); refine box_event ?hg (N := 6) ?hd (cs := #[.int .i64 0, .int .i64 0, .int .i32 0]) (t := 44) ?hr ?_; (case hd => rfl); (case hg => rfl); (case hr => first | (go_simp; done) | (go_simp; rfl)); intro gb124 hg w13 hbox hb; have n0_ := Aside0.mk (below_step (by repeat (first | (with_reducible first | exact HB.out | apply below_alloc | apply pw_below_drewN | apply below_drew1) | exact HB.out)) hb); have n1_ := Aside0.mk (hbox); have n2_ := Aside0.mk ((by rw [hg]; exact (below_size (by repeat (first | (with_reducible first | exact HB.out | apply below_alloc | apply pw_below_drewN | apply below_drew1) | exact HB.out))) : w.heap.size ≤ gb124)); have n3_ := Aside0.mk ((by rw [hg]; exact (below_size (by repeat (first | (with_reducible first | exact HB.out | apply below_alloc | apply pw_below_drewN | apply below_drew1) | exact HB.out))) : w.heap.size ≤ gb124)); clear HB; have HB := n0_; have BK124 := n1_; have GW124 := n2_; have GE124 := n3_; clear n0_ n1_ n2_ n3_; clear hb hbox hg; have hcz14_0 : w13.cell? ⟨gb124, 0, none⟩ = some (.int .i64 0) := (blk_cell BK124.out 0).trans rfl; have hcz14_1 : w13.cell? ⟨gb124, 1, none⟩ = some (.int .i64 0) := (blk_cell BK124.out 1).trans rfl; have hcz14_2 : w13.cell? ⟨gb124, 2, none⟩ = some (.int .i32 0) := (blk_cell BK124.out 2).trans rfl; have hfz14_0 := blk_frozen BK124.out 0; have hfz14_1 := blk_frozen BK124.out 1; have hfz14_2 := blk_frozen BK124.out 2) | ((with_reducible refine gate_callee (f := 24) rfl ?_); refine goesL_ (some 17) rfl rfl Try.func24 (by kernel_rfl) rfl #[.agg #[.int .i64 ((rd_T44 l0 x12_1).f0), .int .i64 ((rd_T44 l0 x12_1).f1), .int .i32 ((rd_T44 l0 x12_1).f2)]] rfl (by (try simp only [List.map_toArray, List.map_cons, List.map_nil]); first | done | rfl | (simp only [List.length_drop, List.length_take]; rfl)) ?_; (with_reducible refine (ranges_right.calls k1 ((rd_T44 l0 x12_1).f0) ((rd_T44 l0 x12_1).f1) ((rd_T44 l0 x12_1).f2) true _ A6.out).mono ?_); rintro e w15 ⟨rfl, hb⟩; refine ⟨_, rfl, ?_⟩; have n0_ := Aside0.mk (blk_below (g := gb124) (o := .cells #[.int .i64 ((rd_T44 l0 x12_1).f0), .int .i64 ((rd_T44 l0 x12_1).f1), .int .i32 ((rd_T44 l0 x12_1).f2)] 44 (0, 0)) (by (with_reducible repeat (first | refine blk_drewN ?_ _ | refine blk_drew ?_ | refine blk_alloc ?_ _)); refine blk_put (cs := #[.int .i64 ((rd_T44 l0 x12_1).f0), .int .i64 ((rd_T44 l0 x12_1).f1), .int .i32 0]) ?_ 2 _ rfl; (with_reducible repeat (first | refine blk_drewN ?_ _ | refine blk_drew ?_ | refine blk_alloc ?_ _)); refine blk_put (cs := #[.int .i64 ((rd_T44 l0 x12_1).f0), .int .i64 0, .int .i32 0]) ?_ 1 _ rfl; (with_reducible repeat (first | refine blk_drewN ?_ _ | refine blk_drew ?_ | refine blk_alloc ?_ _)); refine blk_put (cs := #[.int .i64 0, .int .i64 0, .int .i32 0]) ?_ 0 _ rfl; (with_reducible repeat (first | refine blk_drewN ?_ _ | refine blk_drew ?_ | refine blk_alloc ?_ _)); exact BK124.out) hb); have n1_ := Aside0.mk (below_step (by repeat (first | (with_reducible first | exact HB.out | apply below_alloc | apply pw_below_drewN | apply below_drew1 | refine below_set ?_ GE124.out) | exact HB.out)) hb); clear BK124; clear HB; have BK124 := n0_; have HB := n1_; clear n0_ n1_; (try clear hb); (try clear hb2); (try clear hk); (try clear hi); have hcz16_0 : w15.cell? ⟨gb124, 0, none⟩ = some (.int .i64 ((rd_T44 l0 x12_1).f0)) := (blk_cell BK124.out 0).trans rfl; have hcz16_1 : w15.cell? ⟨gb124, 1, none⟩ = some (.int .i64 ((rd_T44 l0 x12_1).f1)) := (blk_cell BK124.out 1).trans rfl; have hcz16_2 : w15.cell? ⟨gb124, 2, none⟩ = some (.int .i32 ((rd_T44 l0 x12_1).f2)) := (blk_cell BK124.out 2).trans rfl; have hfz16_0 := blk_frozen BK124.out 0; have hfz16_1 := blk_frozen BK124.out 1; have hfz16_2 := blk_frozen BK124.out 2))
                  go_roundg k1
                  case measure => have := HK1.out; omega
                  case rel => exact ⟨(wrap64 (x3_1 + (wrap64 ((wrap64 (((rd_T44 l0 x12_1).f1) - ((rd_T44 l0 x12_1).f0))) + 1)))), ((rd_T44 l0 x12_1).f1), (wrap64 (x12_1 + 1)), (by first | rfl | (simp; done) | (simp [*]; done)), (by first | rfl | (simp; done) | (simp [*]; done)), (by first | rfl | (simp; done) | (simp [*]; done)), H', ⟨by have := HK1.out; omega⟩, ⟨by repeat (first | (with_reducible first | exact HB.out | apply below_alloc | apply pw_below_drewN | apply below_drew1 | refine below_set ?_ GE124.out) | exact HB.out)⟩⟩
              · replace c7 := Bool.eq_false_iff.mpr c7
                subst c7
                have H1 : (some 3) = some r := by rw [if_neg (show ¬ (false = true) by decide)] at H; exact H
                clear H
                have H := H1
                clear H1
                obtain rfl := Option.some.inj H
                have p123 : 0 ≤ (x12_1 : Int) := of_decide_eq_true (by first | (with_reducible assumption) | assumption)
                have q123 : x12_1 < (l0.length : Int) := of_decide_eq_true (by first | (with_reducible assumption) | assumption)
                obtain ⟨ad123, e123, hx123_0, hx123_1, hx123_2⟩ := at_T44 HR0.out x12_1 p123 q123
                cases e123
                replace hx123_0 := (HB.out.cell (World.block_lt_of_cell? w _ hx123_0)).trans hx123_0
                replace hx123_1 := (HB.out.cell (World.block_lt_of_cell? w _ hx123_1)).trans hx123_1
                replace hx123_2 := (HB.out.cell (World.block_lt_of_cell? w _ hx123_2)).trans hx123_2
                replace p123 := eq_true p123
                replace q123 := eq_true q123
                go_wp2_with (first | ((with_reducible refine gate_dst (N := 6) rfl ?_); refine box_event ?hg (N := 6) ?hd (cs := #[.int .i64 0, .int .i64 0, .int .i32 0]) (t := 44) ?hr ?_; (case hd => rfl); (case hg => rfl); (case hr => first | (go_simp; done) | (go_simp; rfl)); intro gb124 hg w17 hbox hb; have n0_ := Aside0.mk (below_step (by repeat (first | (with_reducible first | exact HB.out | apply below_alloc | apply pw_below_drewN | apply below_drew1) | exact HB.out)) hb); have n1_ := Aside0.mk (hbox); have n2_ := Aside0.mk ((by rw [hg]; exact (below_size (by repeat (first | (with_reducible first | exact HB.out | apply below_alloc | apply pw_below_drewN | apply below_drew1) | exact HB.out))) : w.heap.size ≤ gb124)); have n3_ := Aside0.mk ((by rw [hg]; exact (below_size (by repeat (first | (with_reducible first | exact HB.out | apply below_alloc | apply pw_below_drewN | apply below_drew1) | exact HB.out))) : w.heap.size ≤ gb124)); clear HB; have HB := n0_; have BK124 := n1_; have GW124 := n2_; have GE124 := n3_; clear n0_ n1_ n2_ n3_; clear hb hbox hg; have hcz18_0 : w17.cell? ⟨gb124, 0, none⟩ = some (.int .i64 0) := (blk_cell BK124.out 0).trans rfl; have hcz18_1 : w17.cell? ⟨gb124, 1, none⟩ = some (.int .i64 0) := (blk_cell BK124.out 1).trans rfl; have hcz18_2 : w17.cell? ⟨gb124, 2, none⟩ = some (.int .i32 0) := (blk_cell BK124.out 2).trans rfl; have hfz18_0 := blk_frozen BK124.out 0; have hfz18_1 := blk_frozen BK124.out 1; have hfz18_2 := blk_frozen BK124.out 2) | ((with_reducible refine gate_callee (f := 24) rfl ?_); refine goesL_ (some 17) rfl rfl Try.func24 (by kernel_rfl) rfl #[.agg #[.int .i64 ((rd_T44 l0 x12_1).f0), .int .i64 ((rd_T44 l0 x12_1).f1), .int .i32 ((rd_T44 l0 x12_1).f2)]] rfl (by (try simp only [List.map_toArray, List.map_cons, List.map_nil]); first | done | rfl | (simp only [List.length_drop, List.length_take]; rfl)) ?_; (with_reducible refine (ranges_right.calls k1 ((rd_T44 l0 x12_1).f0) ((rd_T44 l0 x12_1).f1) ((rd_T44 l0 x12_1).f2) false _ A6.out).mono ?_); rintro e w19 ⟨rfl, hb⟩; refine ⟨_, rfl, ?_⟩; have n0_ := Aside0.mk (blk_below (g := gb124) (o := .cells #[.int .i64 ((rd_T44 l0 x12_1).f0), .int .i64 ((rd_T44 l0 x12_1).f1), .int .i32 ((rd_T44 l0 x12_1).f2)] 44 (0, 0)) (by (with_reducible repeat (first | refine blk_drewN ?_ _ | refine blk_drew ?_ | refine blk_alloc ?_ _)); refine blk_put (cs := #[.int .i64 ((rd_T44 l0 x12_1).f0), .int .i64 ((rd_T44 l0 x12_1).f1), .int .i32 0]) ?_ 2 _ rfl; (with_reducible repeat (first | refine blk_drewN ?_ _ | refine blk_drew ?_ | refine blk_alloc ?_ _)); refine blk_put (cs := #[.int .i64 ((rd_T44 l0 x12_1).f0), .int .i64 0, .int .i32 0]) ?_ 1 _ rfl; (with_reducible repeat (first | refine blk_drewN ?_ _ | refine blk_drew ?_ | refine blk_alloc ?_ _)); refine blk_put (cs := #[.int .i64 0, .int .i64 0, .int .i32 0]) ?_ 0 _ rfl; (with_reducible repeat (first | refine blk_drewN ?_ _ | refine blk_drew ?_ | refine blk_alloc ?_ _)); exact BK124.out) hb); have n1_ := Aside0.mk (below_step (by repeat (first | (with_reducible first | exact HB.out | apply below_alloc | apply pw_below_drewN | apply below_drew1 | refine below_set ?_ GE124.out) | exact HB.out)) hb); clear BK124; clear HB; have BK124 := n0_; have HB := n1_; clear n0_ n1_; (try clear hb); (try clear hb2); (try clear hk); (try clear hi)))
                go_ret
                exact ⟨by first | rfl | (simp [errW_none, errW_some] <;> rfl) | (simp [*, errW_none, errW_some] <;> rfl), by repeat (first | (with_reducible first | exact HB.out | apply below_alloc | apply pw_below_drewN | apply below_drew1 | refine below_set ?_ GE124.out) | exact HB.out)⟩
            · rw [if_neg c5] at H
              exact absurd H (by simp)
          · rw [if_neg c4] at H
            exact absurd H (by simp)
        · rw [if_neg c3] at H
          have c3b0 : decide (x12_1 < (l0.length : Int)) = false := decide_eq_false c3
          clear c3
          by_cases c20 : x3_1 > 65536
          · rw [if_pos c20] at H
            have c20b0 : decide (65536 < x3_1) = true := decide_eq_true c20
            clear c20
            obtain rfl := Option.some.inj H
            go_wp2
            go_ret
            exact ⟨by first | rfl | (simp [errW_none, errW_some] <;> rfl) | (simp [*, errW_none, errW_some] <;> rfl), by repeat (first | (with_reducible first | exact HB.out | apply below_alloc | apply pw_below_drewN | apply below_drew1) | exact HB.out)⟩
          · rw [if_neg c20] at H
            have c20b0 : decide (65536 < x3_1) = false := decide_eq_false c20
            clear c20
            obtain rfl := Option.some.inj H
            go_wp2
            go_ret
            exact ⟨by first | rfl | (simp [errW_none, errW_some] <;> rfl) | (simp [*, errW_none, errW_some] <;> rfl), by repeat (first | (with_reducible first | exact HB.out | apply below_alloc | apply pw_below_drewN | apply below_drew1) | exact HB.out)⟩

/-! ### ranges_Pairs: function 15 -/
mutual
def ranges_Pairs.l0 : Nat → List (S41) → List (S44) → Int → Int → Option ((List (S41)))
  | 0, _, _, _, _ => none
  | k + 1, x3, x10, x11, x12 => if x12 < x11 then (if 0 ≤ x12 then (if x12 < (x10.length : Int) then (ranges_Pairs.l1 k x3 x10 x11 x12 (wrap64 ((wrap64 (((rd_T44 x10 x12).f1) - ((rd_T44 x10 x12).f0))) + 1)) 0 ((rd_T44 x10 x12).f0) ((rd_T44 x10 x12).f1) ((rd_T44 x10 x12).f2)) else (none)) else (none)) else (some x3)
def ranges_Pairs.l1 : Nat → List (S41) → List (S44) → Int → Int → Int → Int → Int → Int → Int → Option ((List (S41)))
  | 0, _, _, _, _, _, _, _, _, _ => none
  | k + 1, x3, x10, x11, x12, x21, x22, x129000, x129001, x129002 => if x22 < x21 then (if x3.length < 8796093022208 then (ranges_Pairs.l1 k (x3 ++ [(⟨wrap64 (x129000 + x22), wrap32 (x129002 + (wrap32 (x22)))⟩ : S41)]) x10 x11 x12 x21 (wrap64 (x22 + 1)) x129000 x129001 x129002) else (none)) else (ranges_Pairs.l0 k x3 x10 x11 (wrap64 (x12 + 1)))
end
def ranges_Pairs.f (k : Nat) (l0 : List (S44)) : Option ((List (S41))) := (ranges_Check.f k l0).bind fun t126 => (if t126 = 0 then (ranges_Pairs.l0 k ([] : List (S41)) l0 (l0.length : Int) 0) else (some ([] : List (S41))))
theorem ranges_Pairs.mono_l : ∀ k, (∀ y0 y1 y2 y3, LeO (ranges_Pairs.l0 k y0 y1 y2 y3) (ranges_Pairs.l0 (k + 1) y0 y1 y2 y3)) ∧ (∀ y0 y1 y2 y3 y4 y5 y6 y7 y8, LeO (ranges_Pairs.l1 k y0 y1 y2 y3 y4 y5 y6 y7 y8) (ranges_Pairs.l1 (k + 1) y0 y1 y2 y3 y4 y5 y6 y7 y8))
  | 0 => ⟨fun _ _ _ _ r h => by simp [ranges_Pairs.l0] at h, fun _ _ _ _ _ _ _ _ _ r h => by simp [ranges_Pairs.l1] at h⟩
  | k + 1 => by
    obtain ⟨ih0, ih1⟩ := ranges_Pairs.mono_l k
    refine ⟨?_, ?_⟩
    · intro y0 y1 y2 y3
      unfold ranges_Pairs.l0
      repeat' first
      | (with_reducible exact ih0 _ _ _ _)
      | (with_reducible exact ih1 _ _ _ _ _ _ _ _ _)
      | (with_reducible exact ranges_Check.mono _ _)
      | (with_reducible exact LeO.refl _)
      | (with_reducible exact LeO.none _)
      | (with_reducible refine LeO.ite ?_ ?_)
      | (with_reducible refine LeO.bind ?_ (fun _ => ?_))
      | exact ih0 _ _ _ _
      | exact ih1 _ _ _ _ _ _ _ _ _
      | exact ranges_Check.mono _ _
      | exact LeO.none _
      | refine LeO.ite ?_ ?_
      | refine LeO.bind ?_ (fun _ => ?_)
    · intro y0 y1 y2 y3 y4 y5 y6 y7 y8
      unfold ranges_Pairs.l1
      repeat' first
      | (with_reducible exact ih0 _ _ _ _)
      | (with_reducible exact ih1 _ _ _ _ _ _ _ _ _)
      | (with_reducible exact ranges_Check.mono _ _)
      | (with_reducible exact LeO.refl _)
      | (with_reducible exact LeO.none _)
      | (with_reducible refine LeO.ite ?_ ?_)
      | (with_reducible refine LeO.bind ?_ (fun _ => ?_))
      | exact ih0 _ _ _ _
      | exact ih1 _ _ _ _ _ _ _ _ _
      | exact ranges_Check.mono _ _
      | exact LeO.none _
      | refine LeO.ite ?_ ?_
      | refine LeO.bind ?_ (fun _ => ?_)
theorem ranges_Pairs.mono : ∀ a0 k, LeO (ranges_Pairs.f k a0) (ranges_Pairs.f (k + 1) a0) := by
  intro a0 k
  obtain ⟨ih0, ih1⟩ := ranges_Pairs.mono_l k
  unfold ranges_Pairs.f
  repeat' first
      | (with_reducible exact ih0 _ _ _ _)
      | (with_reducible exact ih1 _ _ _ _ _ _ _ _ _)
      | (with_reducible exact ranges_Check.mono _ _)
      | (with_reducible exact LeO.refl _)
      | (with_reducible exact LeO.none _)
      | (with_reducible refine LeO.ite ?_ ?_)
      | (with_reducible refine LeO.bind ?_ (fun _ => ?_))
      | exact ih0 _ _ _ _
      | exact ih1 _ _ _ _ _ _ _ _ _
      | exact ranges_Check.mono _ _
      | exact LeO.none _
      | refine LeO.ite ?_ ?_
      | refine LeO.bind ?_ (fun _ => ?_)
set_option maxHeartbeats 8000000 in
set_option maxRecDepth 100000 in
theorem ranges_Pairs.calls (k : Nat) (A0 : Option Addr) (c0 : Nat) (l0 : List (S44)) (r : List (S41)) (w : World) (hr0 : Kd.C k44 w A0 l0.length l0) (hc0 : l0.length ≤ c0) (h : ranges_Pairs.f k l0 = some r) :
    Calls Try.prog 15 #[.slice A0 l0.length c0] w fun e w' => ∃ v0_ : Value, e = .returned (v0_) ∧ Kd.R k41 41 w' w.heap.size (fun _ => True) v0_ r ∧ Below w.heap.size w w' := by
  have hu44 := Try.underlying44
  have hu41 := Try.underlying41
  have HR0 := Aside0.mk hr0
  have HC0 := Aside0.mk hc0
  clear hr0 hc0
  have HB := Aside0.mk (Below.refl w.heap.size w)
  have H : ((ranges_Check.f k l0).bind fun t126 => (if t126 = 0 then (ranges_Pairs.l0 k ([] : List (S41)) l0 (l0.length : Int) 0) else (some ([] : List (S41))))) = some r := h
  clear h
  replace H := Option.bind_eq_some_iff.mp H
  obtain ⟨t126, A20, H⟩ := H
  replace H : (if t126 = 0 then (ranges_Pairs.l0 k ([] : List (S41)) l0 (l0.length : Int) 0) else (some ([] : List (S41)))) = some r := H
  have A2 := Aside0.mk A20
  clear A20
  by_cases c3 : t126 = 0
  · rw [if_pos c3] at H
    have c3b0 : (t126 == 0) = true := beq_iff_eq.mpr c3
    have c3b1 : (t126 != 0) = false := bne_eq_false_iff_eq.mpr c3
    clear c3
    have H' := Aside0.mk H
    clear H
    go_enter Try.func15, Try.ntmps15
    go_wp2_with (first | ((with_reducible refine gate_callee (f := 13) rfl ?_); refine goesL_ (some 8) rfl rfl Try.func13 (by kernel_rfl) rfl #[.slice A0 l0.length c0] rfl (by (try simp only [List.map_toArray, List.map_cons, List.map_nil]); first | done | rfl | (simp only [List.length_drop, List.length_take]; rfl)) ?_; (with_reducible refine (ranges_Check.calls k _ _ l0 t126 _ ?side1 ?side2 A2.out).mono ?_); (case side1 => repeat (first | exact HR0.out | (with_reducible refine Kd.C_alloc ?_ _) | (with_reducible refine Kd.C_drewN ?_ _) | (with_reducible refine Kd.C_drew ?_))); (case side2 => exact HC0.out); rintro e w4 ⟨rfl, hb⟩; refine ⟨_, rfl, ?_⟩; have n0_ := Aside0.mk (below_step (by repeat (first | (with_reducible first | exact HB.out | apply below_alloc | apply pw_below_drewN | apply below_drew1) | exact HB.out)) hb); clear HB; have HB := n0_; clear n0_; (try clear hb); (try clear hb2); (try clear hk); (try clear hi)))
    go_loopg [3, 12] k (fun kq v3 v12 w' => ∃ (x3_1 : List (S41)) (x12_1 : Int), v12 = .int .i64 x12_1 ∧ Aside0 (ranges_Pairs.l0 kq x3_1 l0 (l0.length : Int) x12_1 = some r) ∧ Aside0 (kq ≤ k) ∧ Aside0 (Kd.R k41 41 w' w.heap.size (fun _ => True) v3 x3_1) ∧ Aside0 (Below w.heap.size w w'))
    case atStart => exact ⟨(([] : List (S41))), (0), (by first | rfl | (simp; done) | (simp [*]; done)), H', ⟨Nat.le_refl _⟩, ⟨by first | exact Kd.R_nil _ _ _ _ _ | exact Kd.N_nil _ _ _ _ _ | exact Kd.V_nil _ _ _ _ _ | exact Kd.Q_nil _ _ _ _ _ | exact Kd.S_nil _ _ _ _ _⟩, ⟨by repeat (first | (with_reducible first | exact HB.out | apply below_alloc | apply pw_below_drewN | apply below_drew1) | exact HB.out)⟩⟩
    case round =>
      clear H'
      try clear c1
      try clear p2
      try clear c3
      try clear c3b0
      try clear c3b1
      obtain ⟨x3_1, x12_1, rfl, HA, HK1, HO_3, HB⟩ := hrel
      cases gk with
      | zero => exact absurd HA.out (by simp [ranges_Pairs.l0])
      | succ k1 =>
        have H := HA.out
        clear HA
        simp only [ranges_Pairs.l0] at H
        by_cases c5 : x12_1 < (l0.length : Int)
        · rw [if_pos c5] at H
          have c5b0 : decide (x12_1 < (l0.length : Int)) = true := decide_eq_true c5
          clear c5
          by_cases c6 : 0 ≤ x12_1
          · rw [if_pos c6] at H
            have c6b0 : decide (0 ≤ x12_1) = true := decide_eq_true c6
            clear c6
            by_cases c7 : x12_1 < (l0.length : Int)
            · rw [if_pos c7] at H
              have c7b0 : decide (x12_1 < (l0.length : Int)) = true := decide_eq_true c7
              clear c7
              have H' := Aside0.mk H
              clear H
              have p127 : 0 ≤ (x12_1 : Int) := of_decide_eq_true (by first | (with_reducible assumption) | assumption)
              have q127 : x12_1 < (l0.length : Int) := of_decide_eq_true (by first | (with_reducible assumption) | assumption)
              obtain ⟨ad127, e127, hx127_0, hx127_1, hx127_2⟩ := at_T44 HR0.out x12_1 p127 q127
              cases e127
              replace hx127_0 := (HB.out.cell (World.block_lt_of_cell? w _ hx127_0)).trans hx127_0
              replace hx127_1 := (HB.out.cell (World.block_lt_of_cell? w _ hx127_1)).trans hx127_1
              replace hx127_2 := (HB.out.cell (World.block_lt_of_cell? w _ hx127_2)).trans hx127_2
              replace p127 := eq_true p127
              replace q127 := eq_true q127
              go_wp2_with (first | ((with_reducible refine gate_dst (N := 5) rfl ?_); refine box_event ?hg (N := 5) ?hd (cs := #[.int .i64 0, .int .i64 0, .int .i32 0]) (t := 44) ?hr ?_; (case hd => rfl); (case hg => rfl); (case hr => first | (go_simp; done) | (go_simp; rfl)); intro gb128 hg w8 hbox hb; have n0_ := Aside0.mk (Kd.R_below (by (with_reducible repeat (first | apply Kd.R_alloc | apply Kd.R_drewN | apply Kd.R_drew)); exact HO_3.out) hb); have n1_ := Aside0.mk (below_step (by repeat (first | (with_reducible first | exact HB.out | apply below_alloc | apply pw_below_drewN | apply below_drew1) | exact HB.out)) hb); have n2_ := Aside0.mk (hbox); have n3_ := Aside0.mk ((by rw [hg]; exact (below_size (by repeat (first | (with_reducible first | exact HB.out | apply below_alloc | apply pw_below_drewN | apply below_drew1) | exact HB.out))) : w.heap.size ≤ gb128)); have n4_ := Aside0.mk ((by rw [hg]; exact (below_size (by repeat (first | (with_reducible first | exact HB.out | apply below_alloc | apply pw_below_drewN | apply below_drew1) | exact HB.out))) : w.heap.size ≤ gb128)); clear HO_3; clear HB; have HO_3 := n0_; have HB := n1_; have BK128 := n2_; have GW128 := n3_; have GE128 := n4_; clear n0_ n1_ n2_ n3_ n4_; clear hb hbox hg; have hcz9_0 : w8.cell? ⟨gb128, 0, none⟩ = some (.int .i64 0) := (blk_cell BK128.out 0).trans rfl; have hcz9_1 : w8.cell? ⟨gb128, 1, none⟩ = some (.int .i64 0) := (blk_cell BK128.out 1).trans rfl; have hcz9_2 : w8.cell? ⟨gb128, 2, none⟩ = some (.int .i32 0) := (blk_cell BK128.out 2).trans rfl; have hfz9_0 := blk_frozen BK128.out 0; have hfz9_1 := blk_frozen BK128.out 1; have hfz9_2 := blk_frozen BK128.out 2))
              go_loopg [3, 22] k1 (fun kq v3 v22 w' => ∃ (x3_2 : List (S41)) (x22_2 : Int), v22 = .int .i64 x22_2 ∧ Aside0 (ranges_Pairs.l1 kq x3_2 l0 (l0.length : Int) x12_1 (wrap64 ((wrap64 (((rd_T44 l0 x12_1).f1) - ((rd_T44 l0 x12_1).f0))) + 1)) x22_2 ((rd_T44 l0 x12_1).f0) ((rd_T44 l0 x12_1).f1) ((rd_T44 l0 x12_1).f2) = some r) ∧ Aside0 (kq ≤ k1) ∧ Aside0 (Kd.R k41 41 w' w.heap.size (fun _ => True) v3 x3_2) ∧ Aside0 (w'.heap[gb128]? = some (.cells #[.int .i64 ((rd_T44 l0 x12_1).f0), .int .i64 ((rd_T44 l0 x12_1).f1), .int .i32 ((rd_T44 l0 x12_1).f2)] 44 (0, 0))) ∧ Aside0 (Below w.heap.size w w'))
              case atStart => exact ⟨(x3_1), (0), (by first | rfl | (simp; done) | (simp [*]; done)), H', ⟨Nat.le_refl _⟩, ⟨by (with_reducible repeat (first | apply Kd.R_alloc | apply Kd.R_drewN | apply Kd.R_drew)); exact Kd.R_mono (Kd.R_far (p := ⟨gb128, 2, none⟩) (Kd.R_far (p := ⟨gb128, 1, none⟩) (Kd.R_far (p := ⟨gb128, 0, none⟩) (Kd.R_types HO_3.out BK128.out (by decide)) (fun _ hk => hk.2) (.int .i64 ((rd_T44 l0 x12_1).f0))) (fun _ hk => hk.2) (.int .i64 ((rd_T44 l0 x12_1).f1))) (fun _ hk => hk.2) (.int .i32 ((rd_T44 l0 x12_1).f2))) (fun _ hk => trivial)⟩, ⟨by (with_reducible repeat (first | refine blk_drewN ?_ _ | refine blk_drew ?_ | refine blk_alloc ?_ _)); refine blk_put (cs := #[.int .i64 ((rd_T44 l0 x12_1).f0), .int .i64 ((rd_T44 l0 x12_1).f1), .int .i32 0]) ?_ 2 _ rfl; (with_reducible repeat (first | refine blk_drewN ?_ _ | refine blk_drew ?_ | refine blk_alloc ?_ _)); refine blk_put (cs := #[.int .i64 ((rd_T44 l0 x12_1).f0), .int .i64 0, .int .i32 0]) ?_ 1 _ rfl; (with_reducible repeat (first | refine blk_drewN ?_ _ | refine blk_drew ?_ | refine blk_alloc ?_ _)); refine blk_put (cs := #[.int .i64 0, .int .i64 0, .int .i32 0]) ?_ 0 _ rfl; (with_reducible repeat (first | refine blk_drewN ?_ _ | refine blk_drew ?_ | refine blk_alloc ?_ _)); exact BK128.out⟩, ⟨by repeat (first | (with_reducible first | exact HB.out | apply below_alloc | apply pw_below_drewN | apply below_drew1 | refine below_set ?_ GE128.out) | exact HB.out)⟩⟩
              case round =>
                clear H'
                try clear c1
                try clear p1
                try clear q1
                try clear hx1
                try clear p2
                try clear c3
                try clear c3b0
                try clear c3b1
                try clear c5
                try clear c5b0
                try clear c6
                try clear c6b0
                try clear p6
                try clear c7
                try clear c7b0
                try clear hcz9_0
                try clear hcz9_1
                try clear hcz9_2
                try clear hfz9_0
                try clear hfz9_1
                try clear hfz9_2
                try clear hx127_0
                try clear hx127_1
                try clear hx127_2
                try clear p127
                try clear p2
                try clear q127
                obtain ⟨x3_2, x22_2, rfl, HA, HK2, HO_3, BK128, HB⟩ := hrel
                cases gk with
                | zero => exact absurd HA.out (by simp [ranges_Pairs.l1])
                | succ k2 =>
                  have H := HA.out
                  clear HA
                  simp only [ranges_Pairs.l1] at H
                  by_cases c10 : x22_2 < (wrap64 ((wrap64 (((rd_T44 l0 x12_1).f1) - ((rd_T44 l0 x12_1).f0))) + 1))
                  · rw [if_pos c10] at H
                    have c10b0 : decide (x22_2 < (wrap64 ((wrap64 (((rd_T44 l0 x12_1).f1) - ((rd_T44 l0 x12_1).f0))) + 1))) = true := decide_eq_true c10
                    clear c10
                    by_cases c11 : x3_2.length < 8796093022208
                    · rw [if_pos c11] at H
                      have LMc11 := Aside0.mk c11
                      clear c11
                      obtain ⟨y129, hy129⟩ : ∃ y_ : List (S41), y_ = (x3_2 ++ [(⟨wrap64 (((rd_T44 l0 x12_1).f0) + x22_2), wrap32 (((rd_T44 l0 x12_1).f2) + (wrap32 (x22_2)))⟩ : S41)]) := ⟨_, rfl⟩
                      replace H : (ranges_Pairs.l1 k2 y129 l0 (l0.length : Int) x12_1 (wrap64 ((wrap64 (((rd_T44 l0 x12_1).f1) - ((rd_T44 l0 x12_1).f0))) + 1)) (wrap64 (x22_2 + 1)) ((rd_T44 l0 x12_1).f0) ((rd_T44 l0 x12_1).f1) ((rd_T44 l0 x12_1).f2)) = some r := by first | (rw [hy129]; with_reducible exact H) | (have H2_ := (Option.bind_some _ _).symm.trans H; rw [hy129]; with_reducible exact H2_) | (have H2_ := (Option.bind_some _ _).symm.trans H; with_reducible exact H2_) | with_reducible exact H | (rw [hy129]; exact H) | exact H
                      have Ny129 := Aside0.mk hy129
                      clear hy129
                      have H' := Aside0.mk H
                      clear H
                      have hcz12_0 : wr.cell? ⟨gb128, 0, none⟩ = some (.int .i64 ((rd_T44 l0 x12_1).f0)) := (blk_cell BK128.out 0).trans rfl
                      have hcz12_1 : wr.cell? ⟨gb128, 1, none⟩ = some (.int .i64 ((rd_T44 l0 x12_1).f1)) := (blk_cell BK128.out 1).trans rfl
                      have hcz12_2 : wr.cell? ⟨gb128, 2, none⟩ = some (.int .i32 ((rd_T44 l0 x12_1).f2)) := (blk_cell BK128.out 2).trans rfl
                      have hfz12_0 := blk_frozen BK128.out 0
                      have hfz12_1 := blk_frozen BK128.out 1
                      have hfz12_2 := blk_frozen BK128.out 2
                      go_wp2_with (first | ((with_reducible refine gate_builtin (b := .append) (xs := #[.tmp 25, .tmp 36]) rfl ?_); at_builtin; refine Kd.R_append k41 (w0 := w) w.heap.size rfl (.tmp 25) (.tmp 36) 22 41 (.agg #[(.int .i64 0), (.int .i32 0)]) 16 rfl Try.underlying22 info41 rfl (by decide) (by omega) u3 x3_2 (⟨wrap64 (((rd_T44 l0 x12_1).f0) + x22_2), wrap32 (((rd_T44 l0 x12_1).f2) + (wrap32 (x22_2)))⟩ : S41) [.int .i64 (wrap64 (((rd_T44 l0 x12_1).f0) + x22_2)), .int .i32 (wrap32 (((rd_T44 l0 x12_1).f2) + (wrap32 (x22_2))))] (fun _ => True) (fun _ => False) rfl rfl ?aP (fun _ hk => hk.elim) ?aF ?aO ?aB ?aS ?aL ?_; (case aP => exact k41_mkM _ _ _ (⟨wrap64 (((rd_T44 l0 x12_1).f0) + x22_2), wrap32 (((rd_T44 l0 x12_1).f2) + (wrap32 (x22_2)))⟩ : S41)); (case aB => exact (by repeat (first | (with_reducible first | exact HB.out | apply below_alloc | apply pw_below_drewN | apply below_drew1 | refine below_set ?_ GE128.out) | exact HB.out))); (case aF => exact (fun _ _ => trivial)); (case aO => exact (by (with_reducible repeat (first | apply Kd.R_alloc | apply Kd.R_drewN | apply Kd.R_drew)); exact HO_3.out)); (case aS => exact (below_size (by repeat (first | (with_reducible first | exact HB.out | apply below_alloc | apply pw_below_drewN | apply below_drew1 | refine below_set ?_ GE128.out) | exact HB.out)))); (case aL => have := LMc11.out; omega); intro v130 w13 ho hb hg hat; rw [← Ny129.out] at ho; have n0_ := Aside0.mk (blk_grown (g := gb128) (o := .cells #[.int .i64 ((rd_T44 l0 x12_1).f0), .int .i64 ((rd_T44 l0 x12_1).f1), .int .i32 ((rd_T44 l0 x12_1).f2)] 44 (0, 0)) (by (with_reducible repeat (first | refine blk_drewN ?_ _ | refine blk_drew ?_ | refine blk_alloc ?_ _)); exact BK128.out) hg (Kd.R_ne HO_3.out BK128.out (by decide))); have n1_ := Aside0.mk (hb); have n2_ := Aside0.mk (ho); clear BK128; clear HB; clear HO_3; have BK128 := n0_; have HB := n1_; have HO131 := n2_; clear n0_ n1_ n2_; clear ho hb hg hat))
                      go_roundg k2
                      case measure => have := HK1.out; have := HK2.out; omega
                      case rel => exact ⟨(y129), (wrap64 (x22_2 + 1)), (by first | rfl | (simp; done) | (simp [*]; done)), H', ⟨by have := HK1.out; have := HK2.out; omega⟩, ⟨by (with_reducible repeat (first | apply Kd.R_alloc | apply Kd.R_drewN | apply Kd.R_drew)); exact HO131.out⟩, ⟨by (with_reducible repeat (first | refine blk_drewN ?_ _ | refine blk_drew ?_ | refine blk_alloc ?_ _)); exact BK128.out⟩, ⟨by repeat (first | (with_reducible first | exact HB.out | apply below_alloc | apply pw_below_drewN | apply below_drew1 | refine below_set ?_ GE128.out) | exact HB.out)⟩⟩
                    · rw [if_neg c11] at H
                      exact absurd H (by simp)
                  · rw [if_neg c10] at H
                    have c10b0 : decide (x22_2 < (wrap64 ((wrap64 (((rd_T44 l0 x12_1).f1) - ((rd_T44 l0 x12_1).f0))) + 1))) = false := decide_eq_false c10
                    clear c10
                    have H' := Aside0.mk H
                    clear H
                    go_wp2
                    go_roundg k2
                    case measure => have := HK1.out; have := HK2.out; omega
                    case rel => exact ⟨(x3_2), (wrap64 (x12_1 + 1)), (by first | rfl | (simp; done) | (simp [*]; done)), H', ⟨by have := HK1.out; have := HK2.out; omega⟩, ⟨by (with_reducible repeat (first | apply Kd.R_alloc | apply Kd.R_drewN | apply Kd.R_drew)); exact HO_3.out⟩, ⟨by repeat (first | (with_reducible first | exact HB.out | apply below_alloc | apply pw_below_drewN | apply below_drew1 | refine below_set ?_ GE128.out) | exact HB.out)⟩⟩
            · rw [if_neg c7] at H
              exact absurd H (by simp)
          · rw [if_neg c6] at H
            exact absurd H (by simp)
        · rw [if_neg c5] at H
          have c5b0 : decide (x12_1 < (l0.length : Int)) = false := decide_eq_false c5
          clear c5
          obtain rfl := Option.some.inj H
          go_wp2
          go_ret
          exact ⟨_, by first | rfl | (simp [errW_none, errW_some] <;> rfl) | (simp [*, errW_none, errW_some] <;> rfl), by (with_reducible repeat (first | apply Kd.R_alloc | apply Kd.R_drewN | apply Kd.R_drew)); exact HO_3.out, by repeat (first | (with_reducible first | exact HB.out | apply below_alloc | apply pw_below_drewN | apply below_drew1) | exact HB.out)⟩
  · rw [if_neg c3] at H
    have c3b0 : (t126 == 0) = false := beq_eq_false_iff_ne.mpr c3
    have c3b1 : (t126 != 0) = true := bne_iff_ne.mpr c3
    obtain rfl := Option.some.inj H
    go_enter Try.func15, Try.ntmps15
    go_wp2_with (first | ((with_reducible refine gate_callee (f := 13) rfl ?_); refine goesL_ (some 8) rfl rfl Try.func13 (by kernel_rfl) rfl #[.slice A0 l0.length c0] rfl (by (try simp only [List.map_toArray, List.map_cons, List.map_nil]); first | done | rfl | (simp only [List.length_drop, List.length_take]; rfl)) ?_; (with_reducible refine (ranges_Check.calls k _ _ l0 t126 _ ?side1 ?side2 A2.out).mono ?_); (case side1 => repeat (first | exact HR0.out | (with_reducible refine Kd.C_alloc ?_ _) | (with_reducible refine Kd.C_drewN ?_ _) | (with_reducible refine Kd.C_drew ?_))); (case side2 => exact HC0.out); rintro e w14 ⟨rfl, hb⟩; refine ⟨_, rfl, ?_⟩; have n0_ := Aside0.mk (below_step (by repeat (first | (with_reducible first | exact HB.out | apply below_alloc | apply pw_below_drewN | apply below_drew1) | exact HB.out)) hb); clear HB; have HB := n0_; clear n0_; (try clear hb); (try clear hb2); (try clear hk); (try clear hi)))
    go_ret
    exact ⟨_, by first | rfl | (simp [errW_none, errW_some] <;> rfl) | (simp [*, errW_none, errW_some] <;> rfl), by first | exact Kd.R_nil _ _ _ _ _ | exact Kd.N_nil _ _ _ _ _ | exact Kd.V_nil _ _ _ _ _ | exact Kd.Q_nil _ _ _ _ _ | exact Kd.S_nil _ _ _ _ _, by repeat (first | (with_reducible first | exact HB.out | apply below_alloc | apply pw_below_drewN | apply below_drew1) | exact HB.out)⟩

-- NOT PRINTED: function 25 (api_Range_int)

/-! ### ranges_Code: function 18 -/
def ranges_Code.l0 : Nat → Int → List (S44) → Int → Int → Option (Int × Bool)
  | 0, _, _, _, _ => none
  | k + 1, x1, x9, x10, x11 => if x11 < x10 then (if 0 ≤ x11 then (if x11 < (x9.length : Int) then (if (wrap64 ((wrap64 (x1)) - (wrap64 ((rd_T44 x9 x11).f2)))) ≥ 0 then (if (wrap64 ((wrap64 (x1)) - (wrap64 ((rd_T44 x9 x11).f2)))) ≤ (wrap64 (((rd_T44 x9 x11).f1) - ((rd_T44 x9 x11).f0))) then (some (wrap64 (((rd_T44 x9 x11).f0) + (wrap64 ((wrap64 (x1)) - (wrap64 ((rd_T44 x9 x11).f2))))), true)) else (ranges_Code.l0 k x1 x9 x10 (wrap64 (x11 + 1)))) else (ranges_Code.l0 k x1 x9 x10 (wrap64 (x11 + 1)))) else (none)) else (none)) else (some (0, false))
def ranges_Code.f (k : Nat) (l0 : List (S44)) (a1 : Int) : Option (Int × Bool) := ranges_Code.l0 k a1 l0 (l0.length : Int) 0
theorem ranges_Code.mono_l : ∀ k, (∀ y0 y1 y2 y3, LeO (ranges_Code.l0 k y0 y1 y2 y3) (ranges_Code.l0 (k + 1) y0 y1 y2 y3))
  | 0 => fun _ _ _ _ r h => by simp [ranges_Code.l0] at h
  | k + 1 => by
    have ih0 := ranges_Code.mono_l k
    · intro y0 y1 y2 y3
      unfold ranges_Code.l0
      repeat' first
      | (with_reducible exact ih0 _ _ _ _)
      | (with_reducible exact LeO.refl _)
      | (with_reducible exact LeO.none _)
      | (with_reducible refine LeO.ite ?_ ?_)
      | (with_reducible refine LeO.bind ?_ (fun _ => ?_))
      | exact ih0 _ _ _ _
      | exact LeO.none _
      | refine LeO.ite ?_ ?_
      | refine LeO.bind ?_ (fun _ => ?_)
theorem ranges_Code.mono : ∀ a0 a1 k, LeO (ranges_Code.f k a0 a1) (ranges_Code.f (k + 1) a0 a1) := by
  intro a0 a1 k
  have ih0 := ranges_Code.mono_l k
  unfold ranges_Code.f
  repeat' first
      | (with_reducible exact ih0 _ _ _ _)
      | (with_reducible exact LeO.refl _)
      | (with_reducible exact LeO.none _)
      | (with_reducible refine LeO.ite ?_ ?_)
      | (with_reducible refine LeO.bind ?_ (fun _ => ?_))
      | exact ih0 _ _ _ _
      | exact LeO.none _
      | refine LeO.ite ?_ ?_
      | refine LeO.bind ?_ (fun _ => ?_)
set_option maxHeartbeats 8000000 in
set_option maxRecDepth 100000 in
theorem ranges_Code.calls (k : Nat) (A0 : Option Addr) (c0 : Nat) (l0 : List (S44)) (a1 : Int) (r1 : Int) (r2 : Bool) (w : World) (hr0 : Kd.C k44 w A0 l0.length l0) (hc0 : l0.length ≤ c0) (h : ranges_Code.f k l0 a1 = some (r1, r2)) :
    Calls Try.prog 18 #[.slice A0 l0.length c0, .int .i32 a1] w fun e w' => e = .returned (.tuple #[.int .i64 r1, .bool r2]) ∧ Below w.heap.size w w' := by
  have hu44 := Try.underlying44
  have HR0 := Aside0.mk hr0
  have HC0 := Aside0.mk hc0
  clear hr0 hc0
  have HB := Aside0.mk (Below.refl w.heap.size w)
  have H : (ranges_Code.l0 k a1 l0 (l0.length : Int) 0) = some (r1, r2) := h
  clear h
  have H' := Aside0.mk H
  clear H
  go_enter Try.func18, Try.ntmps18
  go_wp2
  go_loopg [11] k (fun kq v11 w' => ∃ (x11_1 : Int), v11 = .int .i64 x11_1 ∧ Aside0 (ranges_Code.l0 kq a1 l0 (l0.length : Int) x11_1 = some (r1, r2)) ∧ Aside0 (kq ≤ k) ∧ Aside0 (Below w.heap.size w w'))
  case atStart => exact ⟨(0), (by first | rfl | (simp; done) | (simp [*]; done)), H', ⟨Nat.le_refl _⟩, ⟨by repeat (first | (with_reducible first | exact HB.out | apply below_alloc | apply pw_below_drewN | apply below_drew1) | exact HB.out)⟩⟩
  case round =>
    clear H'
    try clear c1
    try clear p2
    obtain ⟨x11_1, rfl, HA, HK1, HB⟩ := hrel
    cases gk with
    | zero => exact absurd HA.out (by simp [ranges_Code.l0])
    | succ k1 =>
      have H := HA.out
      clear HA
      simp only [ranges_Code.l0] at H
      by_cases c3 : x11_1 < (l0.length : Int)
      · rw [if_pos c3] at H
        have c3b0 : decide (x11_1 < (l0.length : Int)) = true := decide_eq_true c3
        clear c3
        by_cases c4 : 0 ≤ x11_1
        · rw [if_pos c4] at H
          have c4b0 : decide (0 ≤ x11_1) = true := decide_eq_true c4
          clear c4
          by_cases c5 : x11_1 < (l0.length : Int)
          · rw [if_pos c5] at H
            have c5b0 : decide (x11_1 < (l0.length : Int)) = true := decide_eq_true c5
            clear c5
            by_cases c6 : (wrap64 ((wrap64 (a1)) - (wrap64 ((rd_T44 l0 x11_1).f2)))) ≥ 0
            · rw [if_pos c6] at H
              have c6b0 : decide (0 ≤ (wrap64 ((wrap64 (a1)) - (wrap64 ((rd_T44 l0 x11_1).f2))))) = true := decide_eq_true c6
              clear c6
              by_cases c7 : (wrap64 ((wrap64 (a1)) - (wrap64 ((rd_T44 l0 x11_1).f2)))) ≤ (wrap64 (((rd_T44 l0 x11_1).f1) - ((rd_T44 l0 x11_1).f0)))
              · rw [if_pos c7] at H
                have c7b0 : decide ((wrap64 ((wrap64 (a1)) - (wrap64 ((rd_T44 l0 x11_1).f2)))) ≤ (wrap64 (((rd_T44 l0 x11_1).f1) - ((rd_T44 l0 x11_1).f0)))) = true := decide_eq_true c7
                clear c7
                simp only [Option.some.injEq, Prod.mk.injEq] at H
                obtain ⟨rfl, rfl⟩ := H
                have p132 : 0 ≤ (x11_1 : Int) := of_decide_eq_true (by first | (with_reducible assumption) | assumption)
                have q132 : x11_1 < (l0.length : Int) := of_decide_eq_true (by first | (with_reducible assumption) | assumption)
                obtain ⟨ad132, e132, hx132_0, hx132_1, hx132_2⟩ := at_T44 HR0.out x11_1 p132 q132
                cases e132
                replace hx132_0 := (HB.out.cell (World.block_lt_of_cell? w _ hx132_0)).trans hx132_0
                replace hx132_1 := (HB.out.cell (World.block_lt_of_cell? w _ hx132_1)).trans hx132_1
                replace hx132_2 := (HB.out.cell (World.block_lt_of_cell? w _ hx132_2)).trans hx132_2
                replace p132 := eq_true p132
                replace q132 := eq_true q132
                go_wp2_with (first | ((with_reducible refine gate_dst (N := 7) rfl ?_); refine box_event ?hg (N := 7) ?hd (cs := #[.int .i64 0, .int .i64 0, .int .i32 0]) (t := 44) ?hr ?_; (case hd => rfl); (case hg => rfl); (case hr => first | (go_simp; done) | (go_simp; rfl)); intro gb133 hg w8 hbox hb; have n0_ := Aside0.mk (below_step (by repeat (first | (with_reducible first | exact HB.out | apply below_alloc | apply pw_below_drewN | apply below_drew1) | exact HB.out)) hb); have n1_ := Aside0.mk (hbox); have n2_ := Aside0.mk ((by rw [hg]; exact (below_size (by repeat (first | (with_reducible first | exact HB.out | apply below_alloc | apply pw_below_drewN | apply below_drew1) | exact HB.out))) : w.heap.size ≤ gb133)); have n3_ := Aside0.mk ((by rw [hg]; exact (below_size (by repeat (first | (with_reducible first | exact HB.out | apply below_alloc | apply pw_below_drewN | apply below_drew1) | exact HB.out))) : w.heap.size ≤ gb133)); clear HB; have HB := n0_; have BK133 := n1_; have GW133 := n2_; have GE133 := n3_; clear n0_ n1_ n2_ n3_; clear hb hbox hg; have hcz9_0 : w8.cell? ⟨gb133, 0, none⟩ = some (.int .i64 0) := (blk_cell BK133.out 0).trans rfl; have hcz9_1 : w8.cell? ⟨gb133, 1, none⟩ = some (.int .i64 0) := (blk_cell BK133.out 1).trans rfl; have hcz9_2 : w8.cell? ⟨gb133, 2, none⟩ = some (.int .i32 0) := (blk_cell BK133.out 2).trans rfl; have hfz9_0 := blk_frozen BK133.out 0; have hfz9_1 := blk_frozen BK133.out 1; have hfz9_2 := blk_frozen BK133.out 2))
                go_ret2
                exact ⟨by first | rfl | (simp [errW_none, errW_some] <;> rfl) | (simp [*, errW_none, errW_some] <;> rfl), by repeat (first | (with_reducible first | exact HB.out | apply below_alloc | apply pw_below_drewN | apply below_drew1 | refine below_set ?_ GE133.out) | exact HB.out)⟩
              · rw [if_neg c7] at H
                have c7b0 : decide ((wrap64 ((wrap64 (a1)) - (wrap64 ((rd_T44 l0 x11_1).f2)))) ≤ (wrap64 (((rd_T44 l0 x11_1).f1) - ((rd_T44 l0 x11_1).f0)))) = false := decide_eq_false c7
                clear c7
                have H' := Aside0.mk H
                clear H
                have p132 : 0 ≤ (x11_1 : Int) := of_decide_eq_true (by first | (with_reducible assumption) | assumption)
                have q132 : x11_1 < (l0.length : Int) := of_decide_eq_true (by first | (with_reducible assumption) | assumption)
                obtain ⟨ad132, e132, hx132_0, hx132_1, hx132_2⟩ := at_T44 HR0.out x11_1 p132 q132
                cases e132
                replace hx132_0 := (HB.out.cell (World.block_lt_of_cell? w _ hx132_0)).trans hx132_0
                replace hx132_1 := (HB.out.cell (World.block_lt_of_cell? w _ hx132_1)).trans hx132_1
                replace hx132_2 := (HB.out.cell (World.block_lt_of_cell? w _ hx132_2)).trans hx132_2
                replace p132 := eq_true p132
                replace q132 := eq_true q132
                go_wp2_with (first | ((with_reducible refine gate_dst (N := 7) rfl ?_); refine box_event ?hg (N := 7) ?hd (cs := #[.int .i64 0, .int .i64 0, .int .i32 0]) (t := 44) ?hr ?_; (case hd => rfl); (case hg => rfl); (case hr => first | (go_simp; done) | (go_simp; rfl)); intro gb133 hg w10 hbox hb; have n0_ := Aside0.mk (below_step (by repeat (first | (with_reducible first | exact HB.out | apply below_alloc | apply pw_below_drewN | apply below_drew1) | exact HB.out)) hb); have n1_ := Aside0.mk (hbox); have n2_ := Aside0.mk ((by rw [hg]; exact (below_size (by repeat (first | (with_reducible first | exact HB.out | apply below_alloc | apply pw_below_drewN | apply below_drew1) | exact HB.out))) : w.heap.size ≤ gb133)); have n3_ := Aside0.mk ((by rw [hg]; exact (below_size (by repeat (first | (with_reducible first | exact HB.out | apply below_alloc | apply pw_below_drewN | apply below_drew1) | exact HB.out))) : w.heap.size ≤ gb133)); clear HB; have HB := n0_; have BK133 := n1_; have GW133 := n2_; have GE133 := n3_; clear n0_ n1_ n2_ n3_; clear hb hbox hg; have hcz11_0 : w10.cell? ⟨gb133, 0, none⟩ = some (.int .i64 0) := (blk_cell BK133.out 0).trans rfl; have hcz11_1 : w10.cell? ⟨gb133, 1, none⟩ = some (.int .i64 0) := (blk_cell BK133.out 1).trans rfl; have hcz11_2 : w10.cell? ⟨gb133, 2, none⟩ = some (.int .i32 0) := (blk_cell BK133.out 2).trans rfl; have hfz11_0 := blk_frozen BK133.out 0; have hfz11_1 := blk_frozen BK133.out 1; have hfz11_2 := blk_frozen BK133.out 2))
                go_roundg k1
                case measure => have := HK1.out; omega
                case rel => exact ⟨(wrap64 (x11_1 + 1)), (by first | rfl | (simp; done) | (simp [*]; done)), H', ⟨by have := HK1.out; omega⟩, ⟨by repeat (first | (with_reducible first | exact HB.out | apply below_alloc | apply pw_below_drewN | apply below_drew1 | refine below_set ?_ GE133.out) | exact HB.out)⟩⟩
            · rw [if_neg c6] at H
              have c6b0 : decide (0 ≤ (wrap64 ((wrap64 (a1)) - (wrap64 ((rd_T44 l0 x11_1).f2))))) = false := decide_eq_false c6
              clear c6
              have H' := Aside0.mk H
              clear H
              have p132 : 0 ≤ (x11_1 : Int) := of_decide_eq_true (by first | (with_reducible assumption) | assumption)
              have q132 : x11_1 < (l0.length : Int) := of_decide_eq_true (by first | (with_reducible assumption) | assumption)
              obtain ⟨ad132, e132, hx132_0, hx132_1, hx132_2⟩ := at_T44 HR0.out x11_1 p132 q132
              cases e132
              replace hx132_0 := (HB.out.cell (World.block_lt_of_cell? w _ hx132_0)).trans hx132_0
              replace hx132_1 := (HB.out.cell (World.block_lt_of_cell? w _ hx132_1)).trans hx132_1
              replace hx132_2 := (HB.out.cell (World.block_lt_of_cell? w _ hx132_2)).trans hx132_2
              replace p132 := eq_true p132
              replace q132 := eq_true q132
              go_wp2_with (first | ((with_reducible refine gate_dst (N := 7) rfl ?_); refine box_event ?hg (N := 7) ?hd (cs := #[.int .i64 0, .int .i64 0, .int .i32 0]) (t := 44) ?hr ?_; (case hd => rfl); (case hg => rfl); (case hr => first | (go_simp; done) | (go_simp; rfl)); intro gb133 hg w12 hbox hb; have n0_ := Aside0.mk (below_step (by repeat (first | (with_reducible first | exact HB.out | apply below_alloc | apply pw_below_drewN | apply below_drew1) | exact HB.out)) hb); have n1_ := Aside0.mk (hbox); have n2_ := Aside0.mk ((by rw [hg]; exact (below_size (by repeat (first | (with_reducible first | exact HB.out | apply below_alloc | apply pw_below_drewN | apply below_drew1) | exact HB.out))) : w.heap.size ≤ gb133)); have n3_ := Aside0.mk ((by rw [hg]; exact (below_size (by repeat (first | (with_reducible first | exact HB.out | apply below_alloc | apply pw_below_drewN | apply below_drew1) | exact HB.out))) : w.heap.size ≤ gb133)); clear HB; have HB := n0_; have BK133 := n1_; have GW133 := n2_; have GE133 := n3_; clear n0_ n1_ n2_ n3_; clear hb hbox hg; have hcz13_0 : w12.cell? ⟨gb133, 0, none⟩ = some (.int .i64 0) := (blk_cell BK133.out 0).trans rfl; have hcz13_1 : w12.cell? ⟨gb133, 1, none⟩ = some (.int .i64 0) := (blk_cell BK133.out 1).trans rfl; have hcz13_2 : w12.cell? ⟨gb133, 2, none⟩ = some (.int .i32 0) := (blk_cell BK133.out 2).trans rfl; have hfz13_0 := blk_frozen BK133.out 0; have hfz13_1 := blk_frozen BK133.out 1; have hfz13_2 := blk_frozen BK133.out 2))
              go_roundg k1
              case measure => have := HK1.out; omega
              case rel => exact ⟨(wrap64 (x11_1 + 1)), (by first | rfl | (simp; done) | (simp [*]; done)), H', ⟨by have := HK1.out; omega⟩, ⟨by repeat (first | (with_reducible first | exact HB.out | apply below_alloc | apply pw_below_drewN | apply below_drew1 | refine below_set ?_ GE133.out) | exact HB.out)⟩⟩
          · rw [if_neg c5] at H
            exact absurd H (by simp)
        · rw [if_neg c4] at H
          exact absurd H (by simp)
      · rw [if_neg c3] at H
        have c3b0 : decide (x11_1 < (l0.length : Int)) = false := decide_eq_false c3
        clear c3
        simp only [Option.some.injEq, Prod.mk.injEq] at H
        obtain ⟨rfl, rfl⟩ := H
        go_wp2
        go_ret2
        exact ⟨by first | rfl | (simp [errW_none, errW_some] <;> rfl) | (simp [*, errW_none, errW_some] <;> rfl), by repeat (first | (with_reducible first | exact HB.out | apply below_alloc | apply pw_below_drewN | apply below_drew1) | exact HB.out)⟩

end Go.Proofs.Ytnapldildjnchaa.PRangesBack
