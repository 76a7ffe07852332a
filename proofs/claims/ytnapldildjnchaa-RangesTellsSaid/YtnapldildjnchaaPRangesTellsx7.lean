/- RangesTells: what the functions answer, and their walks; ranges.Scalar is given by YtnapldildjnchaaGRangesTells. Written by a program of ours over the print. -/
import Derived.Test.YtnapldildjnchaaPRangesTellsx0
import Derived.Test.YtnapldildjnchaaPRangesTellsx3
import Derived.Test.YtnapldildjnchaaPRangesTellsx4
import Derived.Test.YtnapldildjnchaaPRangesTellsx5
import Derived.Test.YtnapldildjnchaaPRangesTellsx6
import Derived.Test.YtnapldildjnchaaGRangesTells
namespace Go.Proofs.Ytnapldildjnchaa.PRangesTells
open Go.RowKit Go.Proofs.YtnapldildjnchaaW.PrintWords Go.Proofs.YtnapldildjnchaaW.PrintLast Go.Proofs.YtnapldildjnchaaW.PrintMore
attribute [local go_sem] max2_int min2_int max_two min_two max_three min_three max_four min_four   -- for this text's walks alone
set_option linter.unusedVariables false
set_option linter.unusedSimpArgs false

/-! ### ranges_Code: function 18 -/
def ranges_Code.l0 : Nat → Int → List (S44) → Int → Int → Option (Int × Bool)
  | 0, _, _, _, _ => none
  | k + 1, x1, x9, x10, x11 => if x11 < x10 then (if 0 ≤ x11 then (if x11 < (x9.length : Int) then (if (wrap64 ((wrap64 (x1)) - (wrap64 ((rd_T44 x9 x11).f2)))) ≥ 0 then (if (wrap64 ((wrap64 (x1)) - (wrap64 ((rd_T44 x9 x11).f2)))) ≤ (wrap64 (((rd_T44 x9 x11).f1) - ((rd_T44 x9 x11).f0))) then (some (wrap64 (((rd_T44 x9 x11).f0) + (wrap64 ((wrap64 (x1)) - (wrap64 ((rd_T44 x9 x11).f2))))), true)) else (ranges_Code.l0 k x1 x9 x10 (wrap64 (x11 + 1)))) else (ranges_Code.l0 k x1 x9 x10 (wrap64 (x11 + 1)))) else (none)) else (none)) else (some (0, false))
def ranges_Code.f (k : Nat) (l0 : List (S44)) (a1 : Int) : Option (Int × Bool) := ranges_Code.l0 k a1 l0 (l0.length : Int) 0
theorem ranges_Code.mono_l : ∀ k, (∀ y0 y1 y2 y3, LeO (ranges_Code.l0 k y0 y1 y2 y3) (ranges_Code.l0 (k + 1) y0 y1 y2 y3))
  | 0 => fun _ _ _ _ r h => by simp [ranges_Code.l0] at h
  | k + 1 => by
    have ih0 := ranges_Code.mono_l k
    · intro y0 y1 y2 y3
      unfold ranges_Code.l0
      repeat' first
      | (with_reducible exact ih0 _ _ _ _)
      | (with_reducible exact LeO.refl _)
      | (with_reducible exact LeO.none _)
      | (with_reducible refine LeO.ite ?_ ?_)
      | (with_reducible refine LeO.bind ?_ (fun _ => ?_))
      | exact ih0 _ _ _ _
      | exact LeO.none _
      | refine LeO.ite ?_ ?_
      | refine LeO.bind ?_ (fun _ => ?_)
theorem ranges_Code.mono : ∀ a0 a1 k, LeO (ranges_Code.f k a0 a1) (ranges_Code.f (k + 1) a0 a1) := by
  intro a0 a1 k
  have ih0 := ranges_Code.mono_l k
  unfold ranges_Code.f
  repeat' first
      | (with_reducible exact ih0 _ _ _ _)
      | (with_reducible exact LeO.refl _)
      | (with_reducible exact LeO.none _)
      | (with_reducible refine LeO.ite ?_ ?_)
      | (with_reducible refine LeO.bind ?_ (fun _ => ?_))
      | exact ih0 _ _ _ _
      | exact LeO.none _
      | refine LeO.ite ?_ ?_
      | refine LeO.bind ?_ (fun _ => ?_)
set_option maxHeartbeats 8000000 in
set_option maxRecDepth 100000 in
theorem ranges_Code.calls (k : Nat) (A0 : Option Addr) (c0 : Nat) (l0 : List (S44)) (a1 : Int) (r1 : Int) (r2 : Bool) (w : World) (hr0 : Kd.C k44 w A0 l0.length l0) (hc0 : l0.length ≤ c0) (h : ranges_Code.f k l0 a1 = some (r1, r2)) :
    Calls Try.prog 18 #[.slice A0 l0.length c0, .int .i32 a1] w fun e w' => e = .returned (.tuple #[.int .i64 r1, .bool r2]) ∧ Below w.heap.size w w' := by
  have hu44 := Try.underlying44
  have HR0 := Aside0.mk hr0
  have HC0 := Aside0.mk hc0
  clear hr0 hc0
  have HB := Aside0.mk (Below.refl w.heap.size w)
  have H : (ranges_Code.l0 k a1 l0 (l0.length : Int) 0) = some (r1, r2) := h
  clear h
  have H' := Aside0.mk H
  clear H
  go_enter Try.func18, Try.ntmps18
  go_wp2
  go_loopg [11] k (fun kq v11 w' => ∃ (x11_1 : Int), v11 = .int .i64 x11_1 ∧ Aside0 (ranges_Code.l0 kq a1 l0 (l0.length : Int) x11_1 = some (r1, r2)) ∧ Aside0 (kq ≤ k) ∧ Aside0 (Below w.heap.size w w'))
  case atStart => exact ⟨(0), (by first | rfl | (simp; done) | (simp [*]; done)), H', ⟨Nat.le_refl _⟩, ⟨by repeat (first | (with_reducible first | exact HB.out | apply below_alloc | apply pw_below_drewN | apply below_drew1) | exact HB.out)⟩⟩
  case round =>
    clear H'
    try clear c1
    try clear p2
    obtain ⟨x11_1, rfl, HA, HK1, HB⟩ := hrel
    cases gk with
    | zero => exact absurd HA.out (by simp [ranges_Code.l0])
    | succ k1 =>
      have H := HA.out
      clear HA
      simp only [ranges_Code.l0] at H
      by_cases c3 : x11_1 < (l0.length : Int)
      · rw [if_pos c3] at H
        have c3b0 : decide (x11_1 < (l0.length : Int)) = true := decide_eq_true c3
        clear c3
        by_cases c4 : 0 ≤ x11_1
        · rw [if_pos c4] at H
          have c4b0 : decide (0 ≤ x11_1) = true := decide_eq_true c4
          clear c4
          by_cases c5 : x11_1 < (l0.length : Int)
          · rw [if_pos c5] at H
            have c5b0 : decide (x11_1 < (l0.length : Int)) = true := decide_eq_true c5
            clear c5
            by_cases c6 : (wrap64 ((wrap64 (a1)) - (wrap64 ((rd_T44 l0 x11_1).f2)))) ≥ 0
            · rw [if_pos c6] at H
              have c6b0 : decide (0 ≤ (wrap64 ((wrap64 (a1)) - (wrap64 ((rd_T44 l0 x11_1).f2))))) = true := decide_eq_true c6
              clear c6
              by_cases c7 : (wrap64 ((wrap64 (a1)) - (wrap64 ((rd_T44 l0 x11_1).f2)))) ≤ (wrap64 (((rd_T44 l0 x11_1).f1) - ((rd_T44 l0 x11_1).f0)))
              · rw [if_pos c7] at H
                have c7b0 : decide ((wrap64 ((wrap64 (a1)) - (wrap64 ((rd_T44 l0 x11_1).f2)))) ≤ (wrap64 (((rd_T44 l0 x11_1).f1) - ((rd_T44 l0 x11_1).f0)))) = true := decide_eq_true c7
                clear c7
                simp only [Option.some.injEq, Prod.mk.injEq] at H
                obtain ⟨rfl, rfl⟩ := H
                have p135 : 0 ≤ (x11_1 : Int) := of_decide_eq_true (by first | (with_reducible assumption) | assumption)
                have q135 : x11_1 < (l0.length : Int) := of_decide_eq_true (by first | (with_reducible assumption) | assumption)
                obtain ⟨ad135, e135, hx135_0, hx135_1, hx135_2⟩ := at_T44 HR0.out x11_1 p135 q135
                cases e135
                replace hx135_0 := (HB.out.cell (World.block_lt_of_cell? w _ hx135_0)).trans hx135_0
                replace hx135_1 := (HB.out.cell (World.block_lt_of_cell? w _ hx135_1)).trans hx135_1
                replace hx135_2 := (HB.out.cell (World.block_lt_of_cell? w _ hx135_2)).trans hx135_2
                replace p135 := eq_true p135
                replace q135 := eq_true q135
                go_wp2_with (first | ((with_reducible refine gate_dst (N := 7) rfl ?_); refine box_event ?hg (N := 7) ?hd (cs := #[.int .i64 0, .int .i64 0, .int .i32 0]) (t := 44) ?hr ?_; (case hd => rfl); (case hg => rfl); (case hr => first | (go_simp; done) | (go_simp; rfl)); intro gb136 hg w8 hbox hb; have n0_ := Aside0.mk (below_step (by repeat (first | (with_reducible first | exact HB.out | apply below_alloc | apply pw_below_drewN | apply below_drew1) | exact HB.out)) hb); have n1_ := Aside0.mk (hbox); have n2_ := Aside0.mk ((by rw [hg]; exact (below_size (by repeat (first | (with_reducible first | exact HB.out | apply below_alloc | apply pw_below_drewN | apply below_drew1) | exact HB.out))) : w.heap.size ≤ gb136)); have n3_ := Aside0.mk ((by rw [hg]; exact (below_size (by repeat (first | (with_reducible first | exact HB.out | apply below_alloc | apply pw_below_drewN | apply below_drew1) | exact HB.out))) : w.heap.size ≤ gb136)); clear HB; have HB := n0_; have BK136 := n1_; have GW136 := n2_; have GE136 := n3_; clear n0_ n1_ n2_ n3_; clear hb hbox hg; have hcz9_0 : w8.cell? ⟨gb136, 0, none⟩ = some (.int .i64 0) := (blk_cell BK136.out 0).trans rfl; have hcz9_1 : w8.cell? ⟨gb136, 1, none⟩ = some (.int .i64 0) := (blk_cell BK136.out 1).trans rfl; have hcz9_2 : w8.cell? ⟨gb136, 2, none⟩ = some (.int .i32 0) := (blk_cell BK136.out 2).trans rfl; have hfz9_0 := blk_frozen BK136.out 0; have hfz9_1 := blk_frozen BK136.out 1; have hfz9_2 := blk_frozen BK136.out 2))
                go_ret2
                exact ⟨by first | rfl | (simp [errW_none, errW_some] <;> rfl) | (simp [*, errW_none, errW_some] <;> rfl), by repeat (first | (with_reducible first | exact HB.out | apply below_alloc | apply pw_below_drewN | apply below_drew1 | refine below_set ?_ GE136.out) | exact HB.out)⟩
              · rw [if_neg c7] at H
                have c7b0 : decide ((wrap64 ((wrap64 (a1)) - (wrap64 ((rd_T44 l0 x11_1).f2)))) ≤ (wrap64 (((rd_T44 l0 x11_1).f1) - ((rd_T44 l0 x11_1).f0)))) = false := decide_eq_false c7
                clear c7
                have H' := Aside0.mk H
                clear H
                have p135 : 0 ≤ (x11_1 : Int) := of_decide_eq_true (by first | (with_reducible assumption) | assumption)
                have q135 : x11_1 < (l0.length : Int) := of_decide_eq_true (by first | (with_reducible assumption) | assumption)
                obtain ⟨ad135, e135, hx135_0, hx135_1, hx135_2⟩ := at_T44 HR0.out x11_1 p135 q135
                cases e135
                replace hx135_0 := (HB.out.cell (World.block_lt_of_cell? w _ hx135_0)).trans hx135_0
                replace hx135_1 := (HB.out.cell (World.block_lt_of_cell? w _ hx135_1)).trans hx135_1
                replace hx135_2 := (HB.out.cell (World.block_lt_of_cell? w _ hx135_2)).trans hx135_2
                replace p135 := eq_true p135
                replace q135 := eq_true q135
                go_wp2_with (first | ((with_reducible refine gate_dst (N := 7) rfl ?_); refine box_event ?hg (N := 7) ?hd (cs := #[.int .i64 0, .int .i64 0, .int .i32 0]) (t := 44) ?hr ?_; (case hd => rfl); (case hg => rfl); (case hr => first | (go_simp; done) | (go_simp; rfl)); intro gb136 hg w10 hbox hb; have n0_ := Aside0.mk (below_step (by repeat (first | (with_reducible first | exact HB.out | apply below_alloc | apply pw_below_drewN | apply below_drew1) | exact HB.out)) hb); have n1_ := Aside0.mk (hbox); have n2_ := Aside0.mk ((by rw [hg]; exact (below_size (by repeat (first | (with_reducible first | exact HB.out | apply below_alloc | apply pw_below_drewN | apply below_drew1) | exact HB.out))) : w.heap.size ≤ gb136)); have n3_ := Aside0.mk ((by rw [hg]; exact (below_size (by repeat (first | (with_reducible first | exact HB.out | apply below_alloc | apply pw_below_drewN | apply below_drew1) | exact HB.out))) : w.heap.size ≤ gb136)); clear HB; have HB := n0_; have BK136 := n1_; have GW136 := n2_; have GE136 := n3_; clear n0_ n1_ n2_ n3_; clear hb hbox hg; have hcz11_0 : w10.cell? ⟨gb136, 0, none⟩ = some (.int .i64 0) := (blk_cell BK136.out 0).trans rfl; have hcz11_1 : w10.cell? ⟨gb136, 1, none⟩ = some (.int .i64 0) := (blk_cell BK136.out 1).trans rfl; have hcz11_2 : w10.cell? ⟨gb136, 2, none⟩ = some (.int .i32 0) := (blk_cell BK136.out 2).trans rfl; have hfz11_0 := blk_frozen BK136.out 0; have hfz11_1 := blk_frozen BK136.out 1; have hfz11_2 := blk_frozen BK136.out 2))
                go_roundg k1
                case measure => have := HK1.out; omega
                case rel => exact ⟨(wrap64 (x11_1 + 1)), (by first | rfl | (simp; done) | (simp [*]; done)), H', ⟨by have := HK1.out; omega⟩, ⟨by repeat (first | (with_reducible first | exact HB.out | apply below_alloc | apply pw_below_drewN | apply below_drew1 | refine below_set ?_ GE136.out) | exact HB.out)⟩⟩
            · rw [if_neg c6] at H
              have c6b0 : decide (0 ≤ (wrap64 ((wrap64 (a1)) - (wrap64 ((rd_T44 l0 x11_1).f2))))) = false := decide_eq_false c6
              clear c6
              have H' := Aside0.mk H
              clear H
              have p135 : 0 ≤ (x11_1 : Int) := of_decide_eq_true (by first | (with_reducible assumption) | assumption)
              have q135 : x11_1 < (l0.length : Int) := of_decide_eq_true (by first | (with_reducible assumption) | assumption)
              obtain ⟨ad135, e135, hx135_0, hx135_1, hx135_2⟩ := at_T44 HR0.out x11_1 p135 q135
              cases e135
              replace hx135_0 := (HB.out.cell (World.block_lt_of_cell? w _ hx135_0)).trans hx135_0
              replace hx135_1 := (HB.out.cell (World.block_lt_of_cell? w _ hx135_1)).trans hx135_1
              replace hx135_2 := (HB.out.cell (World.block_lt_of_cell? w _ hx135_2)).trans hx135_2
              replace p135 := eq_true p135
              replace q135 := eq_true q135
              go_wp2_with (first | ((with_reducible refine gate_dst (N := 7) rfl ?_); refine box_event ?hg (N := 7) ?hd (cs := #[.int .i64 0, .int .i64 0, .int .i32 0]) (t := 44) ?hr ?_; (case hd => rfl); (case hg => rfl); (case hr => first | (go_simp; done) | (go_simp; rfl)); intro gb136 hg w12 hbox hb; have n0_ := Aside0.mk (below_step (by repeat (first | (with_reducible first | exact HB.out | apply below_alloc | apply pw_below_drewN | apply below_drew1) | exact HB.out)) hb); have n1_ := Aside0.mk (hbox); have n2_ := Aside0.mk ((by rw [hg]; exact (below_size (by repeat (first | (with_reducible first | exact HB.out | apply below_alloc | apply pw_below_drewN | apply below_drew1) | exact HB.out))) : w.heap.size ≤ gb136)); have n3_ := Aside0.mk ((by rw [hg]; exact (below_size (by repeat (first | (with_reducible first | exact HB.out | apply below_alloc | apply pw_below_drewN | apply below_drew1) | exact HB.out))) : w.heap.size ≤ gb136)); clear HB; have HB := n0_; have BK136 := n1_; have GW136 := n2_; have GE136 := n3_; clear n0_ n1_ n2_ n3_; clear hb hbox hg; have hcz13_0 : w12.cell? ⟨gb136, 0, none⟩ = some (.int .i64 0) := (blk_cell BK136.out 0).trans rfl; have hcz13_1 : w12.cell? ⟨gb136, 1, none⟩ = some (.int .i64 0) := (blk_cell BK136.out 1).trans rfl; have hcz13_2 : w12.cell? ⟨gb136, 2, none⟩ = some (.int .i32 0) := (blk_cell BK136.out 2).trans rfl; have hfz13_0 := blk_frozen BK136.out 0; have hfz13_1 := blk_frozen BK136.out 1; have hfz13_2 := blk_frozen BK136.out 2))
              go_roundg k1
              case measure => have := HK1.out; omega
              case rel => exact ⟨(wrap64 (x11_1 + 1)), (by first | rfl | (simp; done) | (simp [*]; done)), H', ⟨by have := HK1.out; omega⟩, ⟨by repeat (first | (with_reducible first | exact HB.out | apply below_alloc | apply pw_below_drewN | apply below_drew1 | refine below_set ?_ GE136.out) | exact HB.out)⟩⟩
          · rw [if_neg c5] at H
            exact absurd H (by simp)
        · rw [if_neg c4] at H
          exact absurd H (by simp)
      · rw [if_neg c3] at H
        have c3b0 : decide (x11_1 < (l0.length : Int)) = false := decide_eq_false c3
        clear c3
        simp only [Option.some.injEq, Prod.mk.injEq] at H
        obtain ⟨rfl, rfl⟩ := H
        go_wp2
        go_ret2
        exact ⟨by first | rfl | (simp [errW_none, errW_some] <;> rfl) | (simp [*, errW_none, errW_some] <;> rfl), by repeat (first | (with_reducible first | exact HB.out | apply below_alloc | apply pw_below_drewN | apply below_drew1) | exact HB.out)⟩

/-! ### dragomanref06_Code: function 19 -/
def dragomanref06_Code.l0 : Nat → List (S41) → Int → Int → Option (Int × Bool)
  | 0, _, _, _ => none
  | k + 1, x0, x1, x6 => if x6 < (x0.length : Int) then (if 0 ≤ x6 then (if ((rd_T41 x0 x6).f1) = x1 then (some ((rd_T41 x0 x6).f0, true)) else (dragomanref06_Code.l0 k x0 x1 (wrap64 (x6 + 1)))) else (none)) else (some (0, false))
def dragomanref06_Code.f (k : Nat) (l0 : List (S41)) (a1 : Int) : Option (Int × Bool) := dragomanref06_Code.l0 k l0 a1 0
theorem dragomanref06_Code.mono_l : ∀ k, (∀ y0 y1 y2, LeO (dragomanref06_Code.l0 k y0 y1 y2) (dragomanref06_Code.l0 (k + 1) y0 y1 y2))
  | 0 => fun _ _ _ r h => by simp [dragomanref06_Code.l0] at h
  | k + 1 => by
    have ih0 := dragomanref06_Code.mono_l k
    · intro y0 y1 y2
      unfold dragomanref06_Code.l0
      repeat' first
      | (with_reducible exact ih0 _ _ _)
      | (with_reducible exact LeO.refl _)
      | (with_reducible exact LeO.none _)
      | (with_reducible refine LeO.ite ?_ ?_)
      | (with_reducible refine LeO.bind ?_ (fun _ => ?_))
      | exact ih0 _ _ _
      | exact LeO.none _
      | refine LeO.ite ?_ ?_
      | refine LeO.bind ?_ (fun _ => ?_)
theorem dragomanref06_Code.mono : ∀ a0 a1 k, LeO (dragomanref06_Code.f k a0 a1) (dragomanref06_Code.f (k + 1) a0 a1) := by
  intro a0 a1 k
  have ih0 := dragomanref06_Code.mono_l k
  unfold dragomanref06_Code.f
  repeat' first
      | (with_reducible exact ih0 _ _ _)
      | (with_reducible exact LeO.refl _)
      | (with_reducible exact LeO.none _)
      | (with_reducible refine LeO.ite ?_ ?_)
      | (with_reducible refine LeO.bind ?_ (fun _ => ?_))
      | exact ih0 _ _ _
      | exact LeO.none _
      | refine LeO.ite ?_ ?_
      | refine LeO.bind ?_ (fun _ => ?_)
set_option maxHeartbeats 8000000 in
set_option maxRecDepth 100000 in
theorem dragomanref06_Code.calls (k : Nat) (A0 : Option Addr) (c0 : Nat) (l0 : List (S41)) (a1 : Int) (r1 : Int) (r2 : Bool) (w : World) (hr0 : Kd.C k41 w A0 l0.length l0) (hc0 : l0.length ≤ c0) (h : dragomanref06_Code.f k l0 a1 = some (r1, r2)) :
    Calls Try.prog 19 #[.slice A0 l0.length c0, .int .i32 a1] w fun e w' => e = .returned (.tuple #[.int .i64 r1, .bool r2]) ∧ Drawn0 w w' := by
  have HR0 := Aside0.mk hr0
  have HC0 := Aside0.mk hc0
  clear hr0 hc0
  have H : (dragomanref06_Code.l0 k l0 a1 0) = some (r1, r2) := h
  clear h
  have H' := Aside0.mk H
  clear H
  go_enter Try.func19, Try.ntmps19
  go_wp2
  go_loopg [6] k (fun kq v6 w' => ∃ (x6_1 : Int), v6 = .int .i64 x6_1 ∧ Aside0 (dragomanref06_Code.l0 kq l0 a1 x6_1 = some (r1, r2)) ∧ Aside0 (kq ≤ k) ∧ Drawn0 w w')
  case atStart => exact ⟨(0), (by first | rfl | (simp; done) | (simp [*]; done)), H', ⟨Nat.le_refl _⟩, by repeat (first | exact Drawn0.refl _ | apply Drawn0.step)⟩
  case round =>
    clear H'
    try clear c1
    try clear p2
    obtain ⟨x6_1, rfl, HA, HK1, ⟨m1, rfl⟩⟩ := hrel
    cases gk with
    | zero => exact absurd HA.out (by simp [dragomanref06_Code.l0])
    | succ k1 =>
      have H := HA.out
      clear HA
      simp only [dragomanref06_Code.l0] at H
      by_cases c3 : x6_1 < (l0.length : Int)
      · rw [if_pos c3] at H
        have c3b0 : decide (x6_1 < (l0.length : Int)) = true := decide_eq_true c3
        clear c3
        by_cases c4 : 0 ≤ x6_1
        · rw [if_pos c4] at H
          have c4b0 : decide (0 ≤ x6_1) = true := decide_eq_true c4
          clear c4
          by_cases c5 : ((rd_T41 l0 x6_1).f1) = a1
          · rw [if_pos c5] at H
            have c5b0 : (((rd_T41 l0 x6_1).f1) == a1) = true := beq_iff_eq.mpr c5
            have c5b1 : (((rd_T41 l0 x6_1).f1) != a1) = false := bne_eq_false_iff_eq.mpr c5
            clear c5
            simp only [Option.some.injEq, Prod.mk.injEq] at H
            obtain ⟨rfl, rfl⟩ := H
            have p137 : 0 ≤ (x6_1 : Int) := of_decide_eq_true (by first | (with_reducible assumption) | assumption)
            have q137 : x6_1 < (l0.length : Int) := of_decide_eq_true (by first | (with_reducible assumption) | assumption)
            obtain ⟨ad137, e137, hx137_0, hx137_1⟩ := at_T41 HR0.out x6_1 p137 q137
            cases e137
            replace p137 := eq_true p137
            replace q137 := eq_true q137
            have p138 : 0 ≤ (x6_1 : Int) := of_decide_eq_true (by first | (with_reducible assumption) | assumption)
            have q138 : x6_1 < (l0.length : Int) := of_decide_eq_true (by first | (with_reducible assumption) | assumption)
            obtain ⟨ad138, e138, hx138_0, hx138_1⟩ := at_T41 HR0.out x6_1 p138 q138
            obtain rfl : ad137 = ad138 := (by injection e138)
            replace p138 := eq_true p138
            replace q138 := eq_true q138
            go_wp2
            go_ret2
            exact ⟨by first | rfl | (simp; done) | (simp [*]; done), by repeat (first | exact Drawn0.refl _ | apply Drawn0.step)⟩
          · rw [if_neg c5] at H
            have c5b0 : (((rd_T41 l0 x6_1).f1) == a1) = false := beq_eq_false_iff_ne.mpr c5
            have c5b1 : (((rd_T41 l0 x6_1).f1) != a1) = true := bne_iff_ne.mpr c5
            have H' := Aside0.mk H
            clear H
            have p137 : 0 ≤ (x6_1 : Int) := of_decide_eq_true (by first | (with_reducible assumption) | assumption)
            have q137 : x6_1 < (l0.length : Int) := of_decide_eq_true (by first | (with_reducible assumption) | assumption)
            obtain ⟨ad137, e137, hx137_0, hx137_1⟩ := at_T41 HR0.out x6_1 p137 q137
            cases e137
            replace p137 := eq_true p137
            replace q137 := eq_true q137
            go_wp2
            go_roundg k1
            case measure => have := HK1.out; omega
            case rel => exact ⟨(wrap64 (x6_1 + 1)), (by first | rfl | (simp; done) | (simp [*]; done)), H', ⟨by have := HK1.out; omega⟩, by repeat (first | exact Drawn0.refl _ | apply Drawn0.step)⟩
        · rw [if_neg c4] at H
          exact absurd H (by simp)
      · rw [if_neg c3] at H
        have c3b0 : decide (x6_1 < (l0.length : Int)) = false := decide_eq_false c3
        clear c3
        simp only [Option.some.injEq, Prod.mk.injEq] at H
        obtain ⟨rfl, rfl⟩ := H
        go_wp2
        go_ret2
        exact ⟨by first | rfl | (simp; done) | (simp [*]; done), by repeat (first | exact Drawn0.refl _ | apply Drawn0.step)⟩

/-! ### dragomanlaw06_RangesTells: function 4 -/
def dragomanlaw06_RangesTells.j0 : Nat → Int → Int → List (S44) → Int → List (S41) → Bool → Option (Bool)
  | 0, _, _, _, _, _, _ => none
  | k + 1, x1, x2, x7, x8, x9, x39 => if x39 = true then (some false) else (if x8 = 0 then ((ranges_Scalar.f k x7 x1).bind fun bt155 => ((dragomanref06_Scalar.f k x9 x1).bind fun bt157 => ((ranges_Code.f k x7 x2).bind fun bt159 => ((dragomanref06_Code.f k x9 x2).bind fun bt161 => (if bt155.1 = bt157.1 then (if (bt155.2 == bt157.2) = true then (if bt159.1 = bt161.1 then (some (bt159.2 == bt161.2)) else (some false)) else (some false)) else (some false)))))) else (some true))
def dragomanlaw06_RangesTells.f (k : Nat) (l0 : List (S44)) (a1 : Int) (a2 : Int) : Option (Bool) := (some (([] : List (S44)) : List (S44))).bind fun y139 => (if y139.length + l0.length < 5864062014805 then ((some (y139 ++ l0 : List (S44))).bind fun y142 => ((dragomanref06_Check.f k l0).bind fun t145 => ((ranges_Check.f k y142).bind fun t146 => (if t146 = t145 then ((dragomanref06_Pairs.f k l0).bind fun t147 => ((ranges_Pairs.f k y142).bind fun t150 => ((dragomanref06_SamePairs.f k t150 t147).bind fun t153 => (if t153 = true then ((dragomanref06_Same.f k y142 l0).bind fun t154 => (dragomanlaw06_RangesTells.j0 k a1 a2 y142 t145 t147 (!t154))) else (dragomanlaw06_RangesTells.j0 k a1 a2 y142 t145 t147 true))))) else (some false))))) else (none))
theorem dragomanlaw06_RangesTells.mono_l : ∀ k, (∀ y0 y1 y2 y3 y4 y5, LeO (dragomanlaw06_RangesTells.j0 k y0 y1 y2 y3 y4 y5) (dragomanlaw06_RangesTells.j0 (k + 1) y0 y1 y2 y3 y4 y5))
  | 0 => fun _ _ _ _ _ _ r h => by simp [dragomanlaw06_RangesTells.j0] at h
  | k + 1 => by
    have ih0 := dragomanlaw06_RangesTells.mono_l k
    · intro y0 y1 y2 y3 y4 y5
      unfold dragomanlaw06_RangesTells.j0
      repeat' first
      | (with_reducible exact ih0 _ _ _ _ _ _)
      | (with_reducible exact dragomanref06_Check.mono _ _)
      | (with_reducible exact dragomanref06_Code.mono _ _ _)
      | (with_reducible exact dragomanref06_Pairs.mono _ _)
      | (with_reducible exact dragomanref06_Same.mono _ _ _)
      | (with_reducible exact dragomanref06_SamePairs.mono _ _ _)
      | (with_reducible exact dragomanref06_Scalar.mono _ _ _)
      | (with_reducible exact ranges_Check.mono _ _)
      | (with_reducible exact ranges_Code.mono _ _ _)
      | (with_reducible exact ranges_Pairs.mono _ _)
      | (with_reducible exact ranges_Scalar.mono _ _ _)
      | (with_reducible exact LeO.refl _)
      | (with_reducible exact LeO.none _)
      | (with_reducible refine LeO.ite ?_ ?_)
      | (with_reducible refine LeO.bind ?_ (fun _ => ?_))
      | exact ih0 _ _ _ _ _ _
      | exact dragomanref06_Check.mono _ _
      | exact dragomanref06_Code.mono _ _ _
      | exact dragomanref06_Pairs.mono _ _
      | exact dragomanref06_Same.mono _ _ _
      | exact dragomanref06_SamePairs.mono _ _ _
      | exact dragomanref06_Scalar.mono _ _ _
      | exact ranges_Check.mono _ _
      | exact ranges_Code.mono _ _ _
      | exact ranges_Pairs.mono _ _
      | exact ranges_Scalar.mono _ _ _
      | exact LeO.none _
      | refine LeO.ite ?_ ?_
      | refine LeO.bind ?_ (fun _ => ?_)
theorem dragomanlaw06_RangesTells.mono : ∀ a0 a1 a2 k, LeO (dragomanlaw06_RangesTells.f k a0 a1 a2) (dragomanlaw06_RangesTells.f (k + 1) a0 a1 a2) := by
  intro a0 a1 a2 k
  have ih0 := dragomanlaw06_RangesTells.mono_l k
  unfold dragomanlaw06_RangesTells.f
  repeat' first
      | (with_reducible exact ih0 _ _ _ _ _ _)
      | (with_reducible exact dragomanref06_Check.mono _ _)
      | (with_reducible exact dragomanref06_Code.mono _ _ _)
      | (with_reducible exact dragomanref06_Pairs.mono _ _)
      | (with_reducible exact dragomanref06_Same.mono _ _ _)
      | (with_reducible exact dragomanref06_SamePairs.mono _ _ _)
      | (with_reducible exact dragomanref06_Scalar.mono _ _ _)
      | (with_reducible exact ranges_Check.mono _ _)
      | (with_reducible exact ranges_Code.mono _ _ _)
      | (with_reducible exact ranges_Pairs.mono _ _)
      | (with_reducible exact ranges_Scalar.mono _ _ _)
      | (with_reducible exact LeO.refl _)
      | (with_reducible exact LeO.none _)
      | (with_reducible refine LeO.ite ?_ ?_)
      | (with_reducible refine LeO.bind ?_ (fun _ => ?_))
      | exact ih0 _ _ _ _ _ _
      | exact dragomanref06_Check.mono _ _
      | exact dragomanref06_Code.mono _ _ _
      | exact dragomanref06_Pairs.mono _ _
      | exact dragomanref06_Same.mono _ _ _
      | exact dragomanref06_SamePairs.mono _ _ _
      | exact dragomanref06_Scalar.mono _ _ _
      | exact ranges_Check.mono _ _
      | exact ranges_Code.mono _ _ _
      | exact ranges_Pairs.mono _ _
      | exact ranges_Scalar.mono _ _ _
      | exact LeO.none _
      | refine LeO.ite ?_ ?_
      | refine LeO.bind ?_ (fun _ => ?_)
set_option maxHeartbeats 8000000 in
set_option maxRecDepth 100000 in
theorem dragomanlaw06_RangesTells.calls (k : Nat) (A0 : Option Addr) (c0 : Nat) (l0 : List (S44)) (a1 : Int) (a2 : Int) (r : Bool) (w : World) (hr0 : Kd.C k44 w A0 l0.length l0) (hc0 : l0.length ≤ c0) (h : dragomanlaw06_RangesTells.f k l0 a1 a2 = some r) :
    Calls Try.prog 4 #[.slice A0 l0.length c0, .int .i64 a1, .int .i32 a2] w fun e w' => e = .returned (.bool r) ∧ Below w.heap.size w w' := by
  have HR0 := Aside0.mk hr0
  have HC0 := Aside0.mk hc0
  clear hr0 hc0
  have HB := Aside0.mk (Below.refl w.heap.size w)
  have H : ((some (([] : List (S44)) : List (S44))).bind fun y139 => (if y139.length + l0.length < 5864062014805 then ((some (y139 ++ l0 : List (S44))).bind fun y142 => ((dragomanref06_Check.f k l0).bind fun t145 => ((ranges_Check.f k y142).bind fun t146 => (if t146 = t145 then ((dragomanref06_Pairs.f k l0).bind fun t147 => ((ranges_Pairs.f k y142).bind fun t150 => ((dragomanref06_SamePairs.f k t150 t147).bind fun t153 => (if t153 = true then ((dragomanref06_Same.f k y142 l0).bind fun t154 => (dragomanlaw06_RangesTells.j0 k a1 a2 y142 t145 t147 (!t154))) else (dragomanlaw06_RangesTells.j0 k a1 a2 y142 t145 t147 true))))) else (some false))))) else (none))) = some r := h
  clear h
  obtain ⟨y139, hy139⟩ : ∃ y_ : List (S44), y_ = (([] : List (S44))) := ⟨_, rfl⟩
  replace H : (if y139.length + l0.length < 5864062014805 then ((some (y139 ++ l0 : List (S44))).bind fun y142 => ((dragomanref06_Check.f k l0).bind fun t145 => ((ranges_Check.f k y142).bind fun t146 => (if t146 = t145 then ((dragomanref06_Pairs.f k l0).bind fun t147 => ((ranges_Pairs.f k y142).bind fun t150 => ((dragomanref06_SamePairs.f k t150 t147).bind fun t153 => (if t153 = true then ((dragomanref06_Same.f k y142 l0).bind fun t154 => (dragomanlaw06_RangesTells.j0 k a1 a2 y142 t145 t147 (!t154))) else (dragomanlaw06_RangesTells.j0 k a1 a2 y142 t145 t147 true))))) else (some false))))) else (none)) = some r := by first | (rw [hy139]; with_reducible exact H) | (have H2_ := (Option.bind_some _ _).symm.trans H; rw [hy139]; with_reducible exact H2_) | (have H2_ := (Option.bind_some _ _).symm.trans H; with_reducible exact H2_) | with_reducible exact H | (rw [hy139]; exact H) | exact H
  have Ny139 := Aside0.mk hy139
  clear hy139
  by_cases c4 : y139.length + l0.length < 5864062014805
  · rw [if_pos c4] at H
    have LMc4 := Aside0.mk c4
    clear c4
    obtain ⟨y142, hy142⟩ : ∃ y_ : List (S44), y_ = (y139 ++ l0) := ⟨_, rfl⟩
    replace H : ((dragomanref06_Check.f k l0).bind fun t145 => ((ranges_Check.f k y142).bind fun t146 => (if t146 = t145 then ((dragomanref06_Pairs.f k l0).bind fun t147 => ((ranges_Pairs.f k y142).bind fun t150 => ((dragomanref06_SamePairs.f k t150 t147).bind fun t153 => (if t153 = true then ((dragomanref06_Same.f k y142 l0).bind fun t154 => (dragomanlaw06_RangesTells.j0 k a1 a2 y142 t145 t147 (!t154))) else (dragomanlaw06_RangesTells.j0 k a1 a2 y142 t145 t147 true))))) else (some false)))) = some r := by first | (rw [hy142]; with_reducible exact H) | (have H2_ := (Option.bind_some _ _).symm.trans H; rw [hy142]; with_reducible exact H2_) | (have H2_ := (Option.bind_some _ _).symm.trans H; with_reducible exact H2_) | with_reducible exact H | (rw [hy142]; exact H) | exact H
    have Ny142 := Aside0.mk hy142
    clear hy142
    replace H := Option.bind_eq_some_iff.mp H
    obtain ⟨t145, A50, H⟩ := H
    replace H : ((ranges_Check.f k y142).bind fun t146 => (if t146 = t145 then ((dragomanref06_Pairs.f k l0).bind fun t147 => ((ranges_Pairs.f k y142).bind fun t150 => ((dragomanref06_SamePairs.f k t150 t147).bind fun t153 => (if t153 = true then ((dragomanref06_Same.f k y142 l0).bind fun t154 => (dragomanlaw06_RangesTells.j0 k a1 a2 y142 t145 t147 (!t154))) else (dragomanlaw06_RangesTells.j0 k a1 a2 y142 t145 t147 true))))) else (some false))) = some r := H
    have A5 := Aside0.mk A50
    clear A50
    replace H := Option.bind_eq_some_iff.mp H
    obtain ⟨t146, A60, H⟩ := H
    replace H : (if t146 = t145 then ((dragomanref06_Pairs.f k l0).bind fun t147 => ((ranges_Pairs.f k y142).bind fun t150 => ((dragomanref06_SamePairs.f k t150 t147).bind fun t153 => (if t153 = true then ((dragomanref06_Same.f k y142 l0).bind fun t154 => (dragomanlaw06_RangesTells.j0 k a1 a2 y142 t145 t147 (!t154))) else (dragomanlaw06_RangesTells.j0 k a1 a2 y142 t145 t147 true))))) else (some false)) = some r := H
    have A6 := Aside0.mk A60
    clear A60
    by_cases c7 : t146 = t145
    · rw [if_pos c7] at H
      have c7b0 : (t146 == t145) = true := beq_iff_eq.mpr c7
      have c7b1 : (t146 != t145) = false := bne_eq_false_iff_eq.mpr c7
      clear c7
      replace H := Option.bind_eq_some_iff.mp H
      obtain ⟨t147, A80, H⟩ := H
      replace H : ((ranges_Pairs.f k y142).bind fun t150 => ((dragomanref06_SamePairs.f k t150 t147).bind fun t153 => (if t153 = true then ((dragomanref06_Same.f k y142 l0).bind fun t154 => (dragomanlaw06_RangesTells.j0 k a1 a2 y142 t145 t147 (!t154))) else (dragomanlaw06_RangesTells.j0 k a1 a2 y142 t145 t147 true)))) = some r := H
      have A8 := Aside0.mk A80
      clear A80
      have HC9 := Aside0.mk H
      clear H
      go_enter Try.func4, Try.ntmps4
      go_upto_region 6 with (first | ((with_reducible refine gate_dst (N := 18) rfl ?_); refine Kd.R_lit k44 _ 44 ?hg (N := 18) ?hd (xs := ([] : List (S44))) (inner := []) (ok := fun _ => True) (okp := fun _ => True) ?hr ?hp (fun _ hk => hk) trivial (Below.refl _ _) (Nat.le_refl _) (by simp) ?_; (case hd => rfl); (case hg => rfl); (case hr => first | (go_simp; done) | (go_simp; rfl)); (case hp => exact (Reps.none _ _)); intro v140 w10 ho11 hb hg_ hnew_; clear hg_ hnew_; (first | rw [← Ny139.out] at ho11 | (simp only [Int.reduceToNat] at ho11; rw [← Ny139.out] at ho11)); have n0_ := Aside0.mk (Kd.R_lower ho11 (below_size (by repeat (first | (with_reducible first | exact HB.out | apply below_alloc | apply pw_below_drewN | apply below_drew1) | exact HB.out)))); have n1_ := Aside0.mk (below_step (by repeat (first | (with_reducible first | exact HB.out | apply below_alloc | apply pw_below_drewN | apply below_drew1) | exact HB.out)) hb); clear HB; have HO141 := n0_; have HB := n1_; clear n0_ n1_; clear hb ho11) | ((with_reducible refine gate_builtin (b := .append) (xs := #[.tmp 18, .tmp 19]) rfl ?_); at_builtin; refine Kd.R_append_rows k44 (w0 := w) w.heap.size rfl (.tmp 18) (.tmp 19) 23 44 (.agg #[(.int .i64 0), (.int .i64 0), (.int .i32 0)]) 24 rfl Try.underlying23 info44 rfl (by decide) (by omega) v140 y139 l0 _ _ _ (fun _ => True) (fun _ => False) rfl rfl ?aO ?aR (fun _ _ h => h) (fun _ h => h.elim) ?aF ?aB ?aS ?aL ?_; (case aR => repeat (first | exact (Kd.C_below HR0.out HB.out) | (with_reducible refine Kd.C_alloc ?_ _) | (with_reducible refine Kd.C_drewN ?_ _) | (with_reducible refine Kd.C_drew ?_))); (case aB => exact (by repeat (first | (with_reducible first | exact HB.out | apply below_alloc | apply pw_below_drewN | apply below_drew1) | exact HB.out))); (case aF => exact (fun _ _ => trivial)); (case aO => exact (by (with_reducible repeat (first | apply Kd.R_alloc | apply Kd.R_drewN | apply Kd.R_drew)); exact HO141.out)); (case aS => exact (below_size (by repeat (first | (with_reducible first | exact HB.out | apply below_alloc | apply pw_below_drewN | apply below_drew1) | exact HB.out)))); (case aL => have := LMc4.out; omega); intro v143 w12 ho hb hg hat; rw [← Ny142.out] at ho; have n0_ := Aside0.mk (hb); have n1_ := Aside0.mk (ho); clear HB; clear HO141; have HB := n0_; have HO144 := n1_; clear n0_ n1_; clear ho hb hg hat) | ((with_reducible refine gate_callee (f := 12) rfl ?_); refine goesL_ (some 22) rfl rfl Try.func12 (by kernel_rfl) rfl #[.slice A0 l0.length c0] rfl (by (try simp only [List.map_toArray, List.map_cons, List.map_nil]); first | done | rfl | (simp only [List.length_drop, List.length_take]; rfl)) ?_; (with_reducible refine (dragomanref06_Check.calls k _ _ l0 t145 _ ?side1 ?side2 A5.out).mono ?_); (case side1 => repeat (first | exact (Kd.C_below HR0.out HB.out) | (with_reducible refine Kd.C_alloc ?_ _) | (with_reducible refine Kd.C_drewN ?_ _) | (with_reducible refine Kd.C_drew ?_))); (case side2 => exact HC0.out); rintro e w13 ⟨rfl, hb⟩; refine ⟨_, rfl, ?_⟩; have n0_ := Aside0.mk (Kd.R_below (by (with_reducible repeat (first | apply Kd.R_alloc | apply Kd.R_drewN | apply Kd.R_drew)); exact HO144.out) hb); have n1_ := Aside0.mk (below_step (by repeat (first | (with_reducible first | exact HB.out | apply below_alloc | apply pw_below_drewN | apply below_drew1) | exact HB.out)) hb); clear HO144; clear HB; have HO144 := n0_; have HB := n1_; clear n0_ n1_; (try clear hb); (try clear hb2); (try clear hk); (try clear hi); obtain ⟨Ao14, co14, eo14⟩ := Kd.R_slice HO144.out; subst eo14) | ((with_reducible refine gate_callee (f := 13) rfl ?_); refine goesL_ (some 24) rfl rfl Try.func13 (by kernel_rfl) rfl #[.slice Ao14 y142.length co14] rfl (by (try simp only [List.map_toArray, List.map_cons, List.map_nil]); first | done | rfl | (simp only [List.length_drop, List.length_take]; rfl)) ?_; (with_reducible refine (ranges_Check.calls k _ _ y142 t146 _ ?side1 ?side2 A6.out).mono ?_); (case side1 => repeat (first | exact (Kd.R_reads' HO144.out).2.2 | (with_reducible refine Kd.C_alloc ?_ _) | (with_reducible refine Kd.C_drewN ?_ _) | (with_reducible refine Kd.C_drew ?_))); (case side2 => exact (Kd.R_reads' HO144.out).2.1); rintro e w15 ⟨rfl, hb⟩; refine ⟨_, rfl, ?_⟩; have n0_ := Aside0.mk (Kd.R_below (by (with_reducible repeat (first | apply Kd.R_alloc | apply Kd.R_drewN | apply Kd.R_drew)); exact HO144.out) hb); have n1_ := Aside0.mk (below_step (by repeat (first | (with_reducible first | exact HB.out | apply below_alloc | apply pw_below_drewN | apply below_drew1) | exact HB.out)) hb); clear HO144; clear HB; have HO144 := n0_; have HB := n1_; clear n0_ n1_; (try clear hb); (try clear hb2); (try clear hk); (try clear hi)) | ((with_reducible refine gate_callee (f := 14) rfl ?_); refine goesL_ (some 28) rfl rfl Try.func14 (by kernel_rfl) rfl #[.slice A0 l0.length c0] rfl (by (try simp only [List.map_toArray, List.map_cons, List.map_nil]); first | done | rfl | (simp only [List.length_drop, List.length_take]; rfl)) ?_; (with_reducible refine (dragomanref06_Pairs.calls k _ _ l0 t147 _ ?side1 ?side2 A8.out).mono ?_); (case side1 => repeat (first | exact (Kd.C_below HR0.out HB.out) | (with_reducible refine Kd.C_alloc ?_ _) | (with_reducible refine Kd.C_drewN ?_ _) | (with_reducible refine Kd.C_drew ?_))); (case side2 => exact HC0.out); rintro e w16 ⟨v148, rfl, ho0, hb⟩; refine ⟨_, rfl, ?_⟩; have n0_ := Aside0.mk (Kd.R_below (by (with_reducible repeat (first | apply Kd.R_alloc | apply Kd.R_drewN | apply Kd.R_drew)); exact HO144.out) hb); have n1_ := Aside0.mk (Kd.R_lower ho0 (below_size (by repeat (first | (with_reducible first | exact HB.out | apply below_alloc | apply pw_below_drewN | apply below_drew1) | exact HB.out)))); have n2_ := Aside0.mk (below_step (by repeat (first | (with_reducible first | exact HB.out | apply below_alloc | apply pw_below_drewN | apply below_drew1) | exact HB.out)) hb); clear HO144; clear HB; have HO144 := n0_; have HO149 := n1_; have HB := n2_; clear n0_ n1_ n2_; (try clear hb); (try clear hb2); (try clear hk); (try clear hi); (try clear ho0)))
      (try simp only [Act.put, List.setIfInBounds_toArray, List.set_cons_zero, List.set_cons_succ])
      go_cut [39] (fun v39 wc => ∃ (kq : Nat) (x39_8 : Bool), v39 = .bool x39_8 ∧ Aside0 (dragomanlaw06_RangesTells.j0 kq a1 a2 y142 t145 t147 x39_8 = some r) ∧ Aside0 (kq ≤ k) ∧ Aside0 (Kd.R k44 44 wc w.heap.size (fun _ => True) (.slice Ao14 y142.length co14) y142) ∧ Aside0 (Kd.R k41 41 wc w.heap.size (fun _ => True) v148 t147) ∧ Aside0 (Below w.heap.size w wc))
      case first =>
        have H := HC9.out
        clear HC9
        replace H := Option.bind_eq_some_iff.mp H
        obtain ⟨t150, A170, H⟩ := H
        replace H : ((dragomanref06_SamePairs.f k t150 t147).bind fun t153 => (if t153 = true then ((dragomanref06_Same.f k y142 l0).bind fun t154 => (dragomanlaw06_RangesTells.j0 k a1 a2 y142 t145 t147 (!t154))) else (dragomanlaw06_RangesTells.j0 k a1 a2 y142 t145 t147 true))) = some r := H
        have A17 := Aside0.mk A170
        clear A170
        replace H := Option.bind_eq_some_iff.mp H
        obtain ⟨t153, A180, H⟩ := H
        replace H : (if t153 = true then ((dragomanref06_Same.f k y142 l0).bind fun t154 => (dragomanlaw06_RangesTells.j0 k a1 a2 y142 t145 t147 (!t154))) else (dragomanlaw06_RangesTells.j0 k a1 a2 y142 t145 t147 true)) = some r := H
        have A18 := Aside0.mk A180
        clear A180
        by_cases c19 : t153 = true
        · subst c19
          have H1 : ((dragomanref06_Same.f k y142 l0).bind fun t154 => (dragomanlaw06_RangesTells.j0 k a1 a2 y142 t145 t147 (!t154))) = some r := by rw [if_pos rfl] at H; exact H
          clear H
          have H := H1
          clear H1
          replace H := Option.bind_eq_some_iff.mp H
          obtain ⟨t154, A200, H⟩ := H
          replace H : (dragomanlaw06_RangesTells.j0 k a1 a2 y142 t145 t147 (!t154)) = some r := H
          have A20 := Aside0.mk A200
          clear A200
          have H' := Aside0.mk H
          clear H
          go_wp2_with (first | ((with_reducible refine gate_callee (f := 15) rfl ?_); refine goesL_ (some 30) rfl rfl Try.func15 (by kernel_rfl) rfl #[.slice Ao14 y142.length co14] rfl (by (try simp only [List.map_toArray, List.map_cons, List.map_nil]); first | done | rfl | (simp only [List.length_drop, List.length_take]; rfl)) ?_; (with_reducible refine (ranges_Pairs.calls k _ _ y142 t150 _ ?side1 ?side2 A17.out).mono ?_); (case side1 => repeat (first | exact (Kd.R_reads' HO144.out).2.2 | (with_reducible refine Kd.C_alloc ?_ _) | (with_reducible refine Kd.C_drewN ?_ _) | (with_reducible refine Kd.C_drew ?_))); (case side2 => exact (Kd.R_reads' HO144.out).2.1); rintro e w21 ⟨v151, rfl, ho0, hb⟩; refine ⟨_, rfl, ?_⟩; have n0_ := Aside0.mk (Kd.R_below (by (with_reducible repeat (first | apply Kd.R_alloc | apply Kd.R_drewN | apply Kd.R_drew)); exact HO144.out) hb); have n1_ := Aside0.mk (Kd.R_elder' (by (with_reducible repeat (first | apply Kd.R_alloc | apply Kd.R_drewN | apply Kd.R_drew)); exact HO149.out) (Kd.R_base ho0) hb); have n2_ := Aside0.mk (Kd.R_lower (Kd.R_new' ho0 (Kd.R_lt (by (with_reducible repeat (first | apply Kd.R_alloc | apply Kd.R_drewN | apply Kd.R_drew)); exact HO149.out))) (below_size (by repeat (first | (with_reducible first | exact HB.out | apply below_alloc | apply pw_below_drewN | apply below_drew1) | exact HB.out)))); have n3_ := Aside0.mk (below_step (by repeat (first | (with_reducible first | exact HB.out | apply below_alloc | apply pw_below_drewN | apply below_drew1) | exact HB.out)) hb); clear HO144; clear HO149; clear HB; have HO144 := n0_; have HO149 := n1_; have HO152 := n2_; have HB := n3_; clear n0_ n1_ n2_ n3_; (try clear hb); (try clear hb2); (try clear hk); (try clear hi); (try clear ho0); obtain ⟨Ao22, co22, eo22⟩ := Kd.R_slice HO152.out; subst eo22; obtain ⟨Ao23, co23, eo23⟩ := Kd.R_slice HO149.out; subst eo23) | ((with_reducible refine gate_callee (f := 11) rfl ?_); refine goesL_ (some 32) rfl rfl Try.func11 (by kernel_rfl) rfl #[.slice Ao22 t150.length co22, .slice Ao23 t147.length co23] rfl (by (try simp only [List.map_toArray, List.map_cons, List.map_nil]); first | done | rfl | (simp only [List.length_drop, List.length_take]; rfl)) ?_; (with_reducible refine (dragomanref06_SamePairs.calls k _ _ t150 _ _ t147 true _ ?side1 ?side2 ?side3 ?side4 A18.out).mono ?_); (case side1 => repeat (first | exact (Kd.R_reads' HO152.out).2.2 | (with_reducible refine Kd.C_alloc ?_ _) | (with_reducible refine Kd.C_drewN ?_ _) | (with_reducible refine Kd.C_drew ?_))); (case side2 => exact (Kd.R_reads' HO152.out).2.1); (case side3 => repeat (first | exact (Kd.R_reads' HO149.out).2.2 | (with_reducible refine Kd.C_alloc ?_ _) | (with_reducible refine Kd.C_drewN ?_ _) | (with_reducible refine Kd.C_drew ?_))); (case side4 => exact (Kd.R_reads' HO149.out).2.1); rintro e w' ⟨rfl, ⟨nd, rfl⟩⟩; refine ⟨_, rfl, ?_⟩) | (go_at_call 10; (with_reducible refine (dragomanref06_Same.calls k _ _ y142 _ _ l0 t154 _ ?side1 ?side2 ?side3 ?side4 A20.out).mono ?_); (case side1 => repeat (first | exact (Kd.R_reads' HO144.out).2.2 | (with_reducible refine Kd.C_alloc ?_ _) | (with_reducible refine Kd.C_drewN ?_ _) | (with_reducible refine Kd.C_drew ?_))); (case side2 => exact (Kd.R_reads' HO144.out).2.1); (case side3 => repeat (first | exact (Kd.C_below HR0.out (by repeat (first | (with_reducible first | exact HB.out | apply below_alloc | apply pw_below_drewN | apply below_drew1) | exact HB.out))) | (with_reducible refine Kd.C_alloc ?_ _) | (with_reducible refine Kd.C_drewN ?_ _) | (with_reducible refine Kd.C_drew ?_))); (case side4 => exact HC0.out); rintro e w' ⟨rfl, ⟨nd, rfl⟩⟩))
          go_meet
          case rel => exact ⟨_, (!t154), (by first | rfl | (simp; done) | (simp [*]; done)), H', ⟨by first | omega | exact Nat.le_refl _⟩, ⟨by (with_reducible repeat (first | apply Kd.R_alloc | apply Kd.R_drewN | apply Kd.R_drew)); exact HO144.out⟩, ⟨by (with_reducible repeat (first | apply Kd.R_alloc | apply Kd.R_drewN | apply Kd.R_drew)); exact Kd.R_mono HO149.out (fun _ hk => trivial)⟩, ⟨by repeat (first | (with_reducible first | exact HB.out | apply below_alloc | apply pw_below_drewN | apply below_drew1) | exact HB.out)⟩⟩
        · replace c19 := Bool.eq_false_iff.mpr c19
          subst c19
          have H1 : (dragomanlaw06_RangesTells.j0 k a1 a2 y142 t145 t147 true) = some r := by rw [if_neg (show ¬ (false = true) by decide)] at H; exact H
          clear H
          have H := H1
          clear H1
          have H' := Aside0.mk H
          clear H
          go_wp2_with (first | ((with_reducible refine gate_callee (f := 15) rfl ?_); refine goesL_ (some 30) rfl rfl Try.func15 (by kernel_rfl) rfl #[.slice Ao14 y142.length co14] rfl (by (try simp only [List.map_toArray, List.map_cons, List.map_nil]); first | done | rfl | (simp only [List.length_drop, List.length_take]; rfl)) ?_; (with_reducible refine (ranges_Pairs.calls k _ _ y142 t150 _ ?side1 ?side2 A17.out).mono ?_); (case side1 => repeat (first | exact (Kd.R_reads' HO144.out).2.2 | (with_reducible refine Kd.C_alloc ?_ _) | (with_reducible refine Kd.C_drewN ?_ _) | (with_reducible refine Kd.C_drew ?_))); (case side2 => exact (Kd.R_reads' HO144.out).2.1); rintro e w24 ⟨v151, rfl, ho0, hb⟩; refine ⟨_, rfl, ?_⟩; have n0_ := Aside0.mk (Kd.R_below (by (with_reducible repeat (first | apply Kd.R_alloc | apply Kd.R_drewN | apply Kd.R_drew)); exact HO144.out) hb); have n1_ := Aside0.mk (Kd.R_elder' (by (with_reducible repeat (first | apply Kd.R_alloc | apply Kd.R_drewN | apply Kd.R_drew)); exact HO149.out) (Kd.R_base ho0) hb); have n2_ := Aside0.mk (Kd.R_lower (Kd.R_new' ho0 (Kd.R_lt (by (with_reducible repeat (first | apply Kd.R_alloc | apply Kd.R_drewN | apply Kd.R_drew)); exact HO149.out))) (below_size (by repeat (first | (with_reducible first | exact HB.out | apply below_alloc | apply pw_below_drewN | apply below_drew1) | exact HB.out)))); have n3_ := Aside0.mk (below_step (by repeat (first | (with_reducible first | exact HB.out | apply below_alloc | apply pw_below_drewN | apply below_drew1) | exact HB.out)) hb); clear HO144; clear HO149; clear HB; have HO144 := n0_; have HO149 := n1_; have HO152 := n2_; have HB := n3_; clear n0_ n1_ n2_ n3_; (try clear hb); (try clear hb2); (try clear hk); (try clear hi); (try clear ho0); obtain ⟨Ao25, co25, eo25⟩ := Kd.R_slice HO152.out; subst eo25; obtain ⟨Ao26, co26, eo26⟩ := Kd.R_slice HO149.out; subst eo26) | ((with_reducible refine gate_callee (f := 11) rfl ?_); refine goesL_ (some 32) rfl rfl Try.func11 (by kernel_rfl) rfl #[.slice Ao25 t150.length co25, .slice Ao26 t147.length co26] rfl (by (try simp only [List.map_toArray, List.map_cons, List.map_nil]); first | done | rfl | (simp only [List.length_drop, List.length_take]; rfl)) ?_; (with_reducible refine (dragomanref06_SamePairs.calls k _ _ t150 _ _ t147 false _ ?side1 ?side2 ?side3 ?side4 A18.out).mono ?_); (case side1 => repeat (first | exact (Kd.R_reads' HO152.out).2.2 | (with_reducible refine Kd.C_alloc ?_ _) | (with_reducible refine Kd.C_drewN ?_ _) | (with_reducible refine Kd.C_drew ?_))); (case side2 => exact (Kd.R_reads' HO152.out).2.1); (case side3 => repeat (first | exact (Kd.R_reads' HO149.out).2.2 | (with_reducible refine Kd.C_alloc ?_ _) | (with_reducible refine Kd.C_drewN ?_ _) | (with_reducible refine Kd.C_drew ?_))); (case side4 => exact (Kd.R_reads' HO149.out).2.1); rintro e w' ⟨rfl, ⟨nd, rfl⟩⟩; refine ⟨_, rfl, ?_⟩))
          go_meet
          case rel => exact ⟨_, (true), (by first | rfl | (simp; done) | (simp [*]; done)), H', ⟨by first | omega | exact Nat.le_refl _⟩, ⟨by (with_reducible repeat (first | apply Kd.R_alloc | apply Kd.R_drewN | apply Kd.R_drew)); exact HO144.out⟩, ⟨by (with_reducible repeat (first | apply Kd.R_alloc | apply Kd.R_drewN | apply Kd.R_drew)); exact Kd.R_mono HO149.out (fun _ hk => trivial)⟩, ⟨by repeat (first | (with_reducible first | exact HB.out | apply below_alloc | apply pw_below_drewN | apply below_drew1) | exact HB.out)⟩⟩
      case rest =>
        clear HC9
        try clear c1
        try clear p2
        try clear c4
        try clear c7
        try clear c7b0
        try clear c7b1
        try clear c11
        try clear c12
        try clear c13
        try clear c14
        try clear c15
        try clear c19
        obtain ⟨kq, x39_8, rfl, HA, HJ8, HO_7, HO_9, HB⟩ := hcut
        cases kq with
        | zero => exact absurd HA.out (by simp [dragomanlaw06_RangesTells.j0])
        | succ kj8 =>
          have H := HA.out
          clear HA
          simp only [dragomanlaw06_RangesTells.j0] at H
          by_cases c27 : x39_8 = true
          · subst c27
            have H1 : (some false) = some r := by rw [if_pos rfl] at H; exact H
            clear H
            have H := H1
            clear H1
            obtain rfl := Option.some.inj H
            go_wp2
            go_ret
            exact ⟨by first | rfl | (simp [errW_none, errW_some] <;> rfl) | (simp [*, errW_none, errW_some] <;> rfl), by repeat (first | (with_reducible first | exact HB.out | apply below_alloc | apply pw_below_drewN | apply below_drew1) | exact HB.out)⟩
          · replace c27 := Bool.eq_false_iff.mpr c27
            subst c27
            have H1 : (if t145 = 0 then ((ranges_Scalar.f kj8 y142 a1).bind fun bt155 => ((dragomanref06_Scalar.f kj8 t147 a1).bind fun bt157 => ((ranges_Code.f kj8 y142 a2).bind fun bt159 => ((dragomanref06_Code.f kj8 t147 a2).bind fun bt161 => (if bt155.1 = bt157.1 then (if (bt155.2 == bt157.2) = true then (if bt159.1 = bt161.1 then (some (bt159.2 == bt161.2)) else (some false)) else (some false)) else (some false)))))) else (some true)) = some r := by rw [if_neg (show ¬ (false = true) by decide)] at H; exact H
            clear H
            have H := H1
            clear H1
            by_cases c28 : t145 = 0
            · rw [if_pos c28] at H
              have c28b0 : (t145 == 0) = true := beq_iff_eq.mpr c28
              have c28b1 : (t145 != 0) = false := bne_eq_false_iff_eq.mpr c28
              clear c28
              replace H := Option.bind_eq_some_iff.mp H
              obtain ⟨⟨t155, t156⟩, A290, H⟩ := H
              replace H : ((dragomanref06_Scalar.f kj8 t147 a1).bind fun bt157 => ((ranges_Code.f kj8 y142 a2).bind fun bt159 => ((dragomanref06_Code.f kj8 t147 a2).bind fun bt161 => (if t155 = bt157.1 then (if (t156 == bt157.2) = true then (if bt159.1 = bt161.1 then (some (bt159.2 == bt161.2)) else (some false)) else (some false)) else (some false))))) = some r := H
              have A29 := Aside0.mk A290
              clear A290
              replace H := Option.bind_eq_some_iff.mp H
              obtain ⟨⟨t157, t158⟩, A300, H⟩ := H
              replace H : ((ranges_Code.f kj8 y142 a2).bind fun bt159 => ((dragomanref06_Code.f kj8 t147 a2).bind fun bt161 => (if t155 = t157 then (if (t156 == t158) = true then (if bt159.1 = bt161.1 then (some (bt159.2 == bt161.2)) else (some false)) else (some false)) else (some false)))) = some r := H
              have A30 := Aside0.mk A300
              clear A300
              replace H := Option.bind_eq_some_iff.mp H
              obtain ⟨⟨t159, t160⟩, A310, H⟩ := H
              replace H : ((dragomanref06_Code.f kj8 t147 a2).bind fun bt161 => (if t155 = t157 then (if (t156 == t158) = true then (if t159 = bt161.1 then (some (t160 == bt161.2)) else (some false)) else (some false)) else (some false))) = some r := H
              have A31 := Aside0.mk A310
              clear A310
              replace H := Option.bind_eq_some_iff.mp H
              obtain ⟨⟨t161, t162⟩, A320, H⟩ := H
              replace H : (if t155 = t157 then (if (t156 == t158) = true then (if t159 = t161 then (some (t160 == t162)) else (some false)) else (some false)) else (some false)) = some r := H
              have A32 := Aside0.mk A320
              clear A320
              by_cases c33 : t155 = t157
              · rw [if_pos c33] at H
                have c33b0 : (t155 == t157) = true := beq_iff_eq.mpr c33
                have c33b1 : (t155 != t157) = false := bne_eq_false_iff_eq.mpr c33
                clear c33
                by_cases c34 : (t156 == t158) = true
                · rw [if_pos c34] at H
                  have c34b0 : (t156 == t158) = true := c34
                  (try (have c34b1 : decide (t156 = t158) = true := by simpa using c34))
                  (try (have c34b2 : (t156 == t158) = true := by simpa using c34))
                  clear c34
                  by_cases c35 : t159 = t161
                  · rw [if_pos c35] at H
                    have c35b0 : (t159 == t161) = true := beq_iff_eq.mpr c35
                    have c35b1 : (t159 != t161) = false := bne_eq_false_iff_eq.mpr c35
                    clear c35
                    obtain rfl := Option.some.inj H
                    go_wp2_with (first | ((with_reducible refine gate_callee (f := 16) rfl ?_); refine goesL_ (some 45) rfl rfl Try.func16 (by kernel_rfl) rfl #[.slice Ao14 y142.length co14, .int .i64 a1] rfl (by (try simp only [List.map_toArray, List.map_cons, List.map_nil]); first | done | rfl | (simp only [List.length_drop, List.length_take]; rfl)) ?_; (with_reducible refine (ranges_Scalar.calls kj8 _ _ y142 a1 t155 t156 _ ?side1 ?side2 A29.out).mono ?_); (case side1 => repeat (first | exact (Kd.R_reads' HO_7.out).2.2 | (with_reducible refine Kd.C_alloc ?_ _) | (with_reducible refine Kd.C_drewN ?_ _) | (with_reducible refine Kd.C_drew ?_))); (case side2 => exact (Kd.R_reads' HO_7.out).2.1); rintro e w36 ⟨rfl, hb⟩; refine ⟨_, rfl, ?_⟩; have n0_ := Aside0.mk (Kd.R_below (by (with_reducible repeat (first | apply Kd.R_alloc | apply Kd.R_drewN | apply Kd.R_drew)); exact HO_7.out) hb); have n1_ := Aside0.mk (Kd.R_below (by (with_reducible repeat (first | apply Kd.R_alloc | apply Kd.R_drewN | apply Kd.R_drew)); exact HO_9.out) hb); have n2_ := Aside0.mk (below_step (by repeat (first | (with_reducible first | exact HB.out | apply below_alloc | apply pw_below_drewN | apply below_drew1) | exact HB.out)) hb); clear HO_7; clear HO_9; clear HB; have HO_7 := n0_; have HO_9 := n1_; have HB := n2_; clear n0_ n1_ n2_; (try clear hb); (try clear hb2); (try clear hk); (try clear hi); obtain ⟨Ao37, co37, eo37⟩ := Kd.R_slice HO_9.out; subst eo37) | ((with_reducible refine gate_callee (f := 17) rfl ?_); refine goesL_ (some 51) rfl rfl Try.func17 (by kernel_rfl) rfl #[.slice Ao37 t147.length co37, .int .i64 a1] rfl (by (try simp only [List.map_toArray, List.map_cons, List.map_nil]); first | done | rfl | (simp only [List.length_drop, List.length_take]; rfl)) ?_; (with_reducible refine (dragomanref06_Scalar.calls kj8 _ _ t147 a1 t157 t158 _ ?side1 ?side2 A30.out).mono ?_); (case side1 => repeat (first | exact (Kd.R_reads' HO_9.out).2.2 | (with_reducible refine Kd.C_alloc ?_ _) | (with_reducible refine Kd.C_drewN ?_ _) | (with_reducible refine Kd.C_drew ?_))); (case side2 => exact (Kd.R_reads' HO_9.out).2.1); rintro e w' ⟨rfl, ⟨nd, rfl⟩⟩; refine ⟨_, rfl, ?_⟩) | ((with_reducible refine gate_callee (f := 18) rfl ?_); refine goesL_ (some 57) rfl rfl Try.func18 (by kernel_rfl) rfl #[.slice Ao14 y142.length co14, .int .i32 a2] rfl (by (try simp only [List.map_toArray, List.map_cons, List.map_nil]); first | done | rfl | (simp only [List.length_drop, List.length_take]; rfl)) ?_; (with_reducible refine (ranges_Code.calls kj8 _ _ y142 a2 t159 t160 _ ?side1 ?side2 A31.out).mono ?_); (case side1 => repeat (first | exact (Kd.R_reads' HO_7.out).2.2 | (with_reducible refine Kd.C_alloc ?_ _) | (with_reducible refine Kd.C_drewN ?_ _) | (with_reducible refine Kd.C_drew ?_))); (case side2 => exact (Kd.R_reads' HO_7.out).2.1); rintro e w38 ⟨rfl, hb⟩; refine ⟨_, rfl, ?_⟩; have n0_ := Aside0.mk (Kd.R_below (by (with_reducible repeat (first | apply Kd.R_alloc | apply Kd.R_drewN | apply Kd.R_drew)); exact HO_7.out) hb); have n1_ := Aside0.mk (Kd.R_below (by (with_reducible repeat (first | apply Kd.R_alloc | apply Kd.R_drewN | apply Kd.R_drew)); exact HO_9.out) hb); have n2_ := Aside0.mk (below_step (by repeat (first | (with_reducible first | exact HB.out | apply below_alloc | apply pw_below_drewN | apply below_drew1) | exact HB.out)) hb); clear HO_7; clear HO_9; clear HB; have HO_7 := n0_; have HO_9 := n1_; have HB := n2_; clear n0_ n1_ n2_; (try clear hb); (try clear hb2); (try clear hk); (try clear hi)) | ((with_reducible refine gate_callee (f := 19) rfl ?_); refine goesL_ (some 63) rfl rfl Try.func19 (by kernel_rfl) rfl #[.slice Ao37 t147.length co37, .int .i32 a2] rfl (by (try simp only [List.map_toArray, List.map_cons, List.map_nil]); first | done | rfl | (simp only [List.length_drop, List.length_take]; rfl)) ?_; (with_reducible refine (dragomanref06_Code.calls kj8 _ _ t147 a2 t161 t162 _ ?side1 ?side2 A32.out).mono ?_); (case side1 => repeat (first | exact (Kd.R_reads' HO_9.out).2.2 | (with_reducible refine Kd.C_alloc ?_ _) | (with_reducible refine Kd.C_drewN ?_ _) | (with_reducible refine Kd.C_drew ?_))); (case side2 => exact (Kd.R_reads' HO_9.out).2.1); rintro e w' ⟨rfl, ⟨nd, rfl⟩⟩; refine ⟨_, rfl, ?_⟩))
                    go_ret
                    exact ⟨by first | rfl | (simp [errW_none, errW_some] <;> rfl) | (simp [*, errW_none, errW_some] <;> rfl), by repeat (first | (with_reducible first | exact HB.out | apply below_alloc | apply pw_below_drewN | apply below_drew1) | exact HB.out)⟩
                  · rw [if_neg c35] at H
                    have c35b0 : (t159 == t161) = false := beq_eq_false_iff_ne.mpr c35
                    have c35b1 : (t159 != t161) = true := bne_iff_ne.mpr c35
                    obtain rfl := Option.some.inj H
                    go_wp2_with (first | ((with_reducible refine gate_callee (f := 16) rfl ?_); refine goesL_ (some 45) rfl rfl Try.func16 (by kernel_rfl) rfl #[.slice Ao14 y142.length co14, .int .i64 a1] rfl (by (try simp only [List.map_toArray, List.map_cons, List.map_nil]); first | done | rfl | (simp only [List.length_drop, List.length_take]; rfl)) ?_; (with_reducible refine (ranges_Scalar.calls kj8 _ _ y142 a1 t155 t156 _ ?side1 ?side2 A29.out).mono ?_); (case side1 => repeat (first | exact (Kd.R_reads' HO_7.out).2.2 | (with_reducible refine Kd.C_alloc ?_ _) | (with_reducible refine Kd.C_drewN ?_ _) | (with_reducible refine Kd.C_drew ?_))); (case side2 => exact (Kd.R_reads' HO_7.out).2.1); rintro e w39 ⟨rfl, hb⟩; refine ⟨_, rfl, ?_⟩; have n0_ := Aside0.mk (Kd.R_below (by (with_reducible repeat (first | apply Kd.R_alloc | apply Kd.R_drewN | apply Kd.R_drew)); exact HO_7.out) hb); have n1_ := Aside0.mk (Kd.R_below (by (with_reducible repeat (first | apply Kd.R_alloc | apply Kd.R_drewN | apply Kd.R_drew)); exact HO_9.out) hb); have n2_ := Aside0.mk (below_step (by repeat (first | (with_reducible first | exact HB.out | apply below_alloc | apply pw_below_drewN | apply below_drew1) | exact HB.out)) hb); clear HO_7; clear HO_9; clear HB; have HO_7 := n0_; have HO_9 := n1_; have HB := n2_; clear n0_ n1_ n2_; (try clear hb); (try clear hb2); (try clear hk); (try clear hi); obtain ⟨Ao40, co40, eo40⟩ := Kd.R_slice HO_9.out; subst eo40) | ((with_reducible refine gate_callee (f := 17) rfl ?_); refine goesL_ (some 51) rfl rfl Try.func17 (by kernel_rfl) rfl #[.slice Ao40 t147.length co40, .int .i64 a1] rfl (by (try simp only [List.map_toArray, List.map_cons, List.map_nil]); first | done | rfl | (simp only [List.length_drop, List.length_take]; rfl)) ?_; (with_reducible refine (dragomanref06_Scalar.calls kj8 _ _ t147 a1 t157 t158 _ ?side1 ?side2 A30.out).mono ?_); (case side1 => repeat (first | exact (Kd.R_reads' HO_9.out).2.2 | (with_reducible refine Kd.C_alloc ?_ _) | (with_reducible refine Kd.C_drewN ?_ _) | (with_reducible refine Kd.C_drew ?_))); (case side2 => exact (Kd.R_reads' HO_9.out).2.1); rintro e w' ⟨rfl, ⟨nd, rfl⟩⟩; refine ⟨_, rfl, ?_⟩) | ((with_reducible refine gate_callee (f := 18) rfl ?_); refine goesL_ (some 57) rfl rfl Try.func18 (by kernel_rfl) rfl #[.slice Ao14 y142.length co14, .int .i32 a2] rfl (by (try simp only [List.map_toArray, List.map_cons, List.map_nil]); first | done | rfl | (simp only [List.length_drop, List.length_take]; rfl)) ?_; (with_reducible refine (ranges_Code.calls kj8 _ _ y142 a2 t159 t160 _ ?side1 ?side2 A31.out).mono ?_); (case side1 => repeat (first | exact (Kd.R_reads' HO_7.out).2.2 | (with_reducible refine Kd.C_alloc ?_ _) | (with_reducible refine Kd.C_drewN ?_ _) | (with_reducible refine Kd.C_drew ?_))); (case side2 => exact (Kd.R_reads' HO_7.out).2.1); rintro e w41 ⟨rfl, hb⟩; refine ⟨_, rfl, ?_⟩; have n0_ := Aside0.mk (Kd.R_below (by (with_reducible repeat (first | apply Kd.R_alloc | apply Kd.R_drewN | apply Kd.R_drew)); exact HO_7.out) hb); have n1_ := Aside0.mk (Kd.R_below (by (with_reducible repeat (first | apply Kd.R_alloc | apply Kd.R_drewN | apply Kd.R_drew)); exact HO_9.out) hb); have n2_ := Aside0.mk (below_step (by repeat (first | (with_reducible first | exact HB.out | apply below_alloc | apply pw_below_drewN | apply below_drew1) | exact HB.out)) hb); clear HO_7; clear HO_9; clear HB; have HO_7 := n0_; have HO_9 := n1_; have HB := n2_; clear n0_ n1_ n2_; (try clear hb); (try clear hb2); (try clear hk); (try clear hi)) | ((with_reducible refine gate_callee (f := 19) rfl ?_); refine goesL_ (some 63) rfl rfl Try.func19 (by kernel_rfl) rfl #[.slice Ao40 t147.length co40, .int .i32 a2] rfl (by (try simp only [List.map_toArray, List.map_cons, List.map_nil]); first | done | rfl | (simp only [List.length_drop, List.length_take]; rfl)) ?_; (with_reducible refine (dragomanref06_Code.calls kj8 _ _ t147 a2 t161 t162 _ ?side1 ?side2 A32.out).mono ?_); (case side1 => repeat (first | exact (Kd.R_reads' HO_9.out).2.2 | (with_reducible refine Kd.C_alloc ?_ _) | (with_reducible refine Kd.C_drewN ?_ _) | (with_reducible refine Kd.C_drew ?_))); (case side2 => exact (Kd.R_reads' HO_9.out).2.1); rintro e w' ⟨rfl, ⟨nd, rfl⟩⟩; refine ⟨_, rfl, ?_⟩))
                    go_ret
                    exact ⟨by first | rfl | (simp [errW_none, errW_some] <;> rfl) | (simp [*, errW_none, errW_some] <;> rfl), by repeat (first | (with_reducible first | exact HB.out | apply below_alloc | apply pw_below_drewN | apply below_drew1) | exact HB.out)⟩
                · rw [if_neg c34] at H
                  have c34b0 : (t156 == t158) = false := by simpa using c34
                  (try (have c34b1 : decide (t156 = t158) = false := by simpa using c34))
                  (try (have c34b2 : (t156 == t158) = false := by simpa using c34))
                  (try (have c34b3 : ¬ (t156 = t158) := by simpa using c34))
                  clear c34
                  obtain rfl := Option.some.inj H
                  go_wp2_with (first | ((with_reducible refine gate_callee (f := 16) rfl ?_); refine goesL_ (some 45) rfl rfl Try.func16 (by kernel_rfl) rfl #[.slice Ao14 y142.length co14, .int .i64 a1] rfl (by (try simp only [List.map_toArray, List.map_cons, List.map_nil]); first | done | rfl | (simp only [List.length_drop, List.length_take]; rfl)) ?_; (with_reducible refine (ranges_Scalar.calls kj8 _ _ y142 a1 t155 t156 _ ?side1 ?side2 A29.out).mono ?_); (case side1 => repeat (first | exact (Kd.R_reads' HO_7.out).2.2 | (with_reducible refine Kd.C_alloc ?_ _) | (with_reducible refine Kd.C_drewN ?_ _) | (with_reducible refine Kd.C_drew ?_))); (case side2 => exact (Kd.R_reads' HO_7.out).2.1); rintro e w42 ⟨rfl, hb⟩; refine ⟨_, rfl, ?_⟩; have n0_ := Aside0.mk (Kd.R_below (by (with_reducible repeat (first | apply Kd.R_alloc | apply Kd.R_drewN | apply Kd.R_drew)); exact HO_7.out) hb); have n1_ := Aside0.mk (Kd.R_below (by (with_reducible repeat (first | apply Kd.R_alloc | apply Kd.R_drewN | apply Kd.R_drew)); exact HO_9.out) hb); have n2_ := Aside0.mk (below_step (by repeat (first | (with_reducible first | exact HB.out | apply below_alloc | apply pw_below_drewN | apply below_drew1) | exact HB.out)) hb); clear HO_7; clear HO_9; clear HB; have HO_7 := n0_; have HO_9 := n1_; have HB := n2_; clear n0_ n1_ n2_; (try clear hb); (try clear hb2); (try clear hk); (try clear hi); obtain ⟨Ao43, co43, eo43⟩ := Kd.R_slice HO_9.out; subst eo43) | ((with_reducible refine gate_callee (f := 17) rfl ?_); refine goesL_ (some 51) rfl rfl Try.func17 (by kernel_rfl) rfl #[.slice Ao43 t147.length co43, .int .i64 a1] rfl (by (try simp only [List.map_toArray, List.map_cons, List.map_nil]); first | done | rfl | (simp only [List.length_drop, List.length_take]; rfl)) ?_; (with_reducible refine (dragomanref06_Scalar.calls kj8 _ _ t147 a1 t157 t158 _ ?side1 ?side2 A30.out).mono ?_); (case side1 => repeat (first | exact (Kd.R_reads' HO_9.out).2.2 | (with_reducible refine Kd.C_alloc ?_ _) | (with_reducible refine Kd.C_drewN ?_ _) | (with_reducible refine Kd.C_drew ?_))); (case side2 => exact (Kd.R_reads' HO_9.out).2.1); rintro e w' ⟨rfl, ⟨nd, rfl⟩⟩; refine ⟨_, rfl, ?_⟩) | ((with_reducible refine gate_callee (f := 18) rfl ?_); refine goesL_ (some 57) rfl rfl Try.func18 (by kernel_rfl) rfl #[.slice Ao14 y142.length co14, .int .i32 a2] rfl (by (try simp only [List.map_toArray, List.map_cons, List.map_nil]); first | done | rfl | (simp only [List.length_drop, List.length_take]; rfl)) ?_; (with_reducible refine (ranges_Code.calls kj8 _ _ y142 a2 t159 t160 _ ?side1 ?side2 A31.out).mono ?_); (case side1 => repeat (first | exact (Kd.R_reads' HO_7.out).2.2 | (with_reducible refine Kd.C_alloc ?_ _) | (with_reducible refine Kd.C_drewN ?_ _) | (with_reducible refine Kd.C_drew ?_))); (case side2 => exact (Kd.R_reads' HO_7.out).2.1); rintro e w44 ⟨rfl, hb⟩; refine ⟨_, rfl, ?_⟩; have n0_ := Aside0.mk (Kd.R_below (by (with_reducible repeat (first | apply Kd.R_alloc | apply Kd.R_drewN | apply Kd.R_drew)); exact HO_7.out) hb); have n1_ := Aside0.mk (Kd.R_below (by (with_reducible repeat (first | apply Kd.R_alloc | apply Kd.R_drewN | apply Kd.R_drew)); exact HO_9.out) hb); have n2_ := Aside0.mk (below_step (by repeat (first | (with_reducible first | exact HB.out | apply below_alloc | apply pw_below_drewN | apply below_drew1) | exact HB.out)) hb); clear HO_7; clear HO_9; clear HB; have HO_7 := n0_; have HO_9 := n1_; have HB := n2_; clear n0_ n1_ n2_; (try clear hb); (try clear hb2); (try clear hk); (try clear hi)) | ((with_reducible refine gate_callee (f := 19) rfl ?_); refine goesL_ (some 63) rfl rfl Try.func19 (by kernel_rfl) rfl #[.slice Ao43 t147.length co43, .int .i32 a2] rfl (by (try simp only [List.map_toArray, List.map_cons, List.map_nil]); first | done | rfl | (simp only [List.length_drop, List.length_take]; rfl)) ?_; (with_reducible refine (dragomanref06_Code.calls kj8 _ _ t147 a2 t161 t162 _ ?side1 ?side2 A32.out).mono ?_); (case side1 => repeat (first | exact (Kd.R_reads' HO_9.out).2.2 | (with_reducible refine Kd.C_alloc ?_ _) | (with_reducible refine Kd.C_drewN ?_ _) | (with_reducible refine Kd.C_drew ?_))); (case side2 => exact (Kd.R_reads' HO_9.out).2.1); rintro e w' ⟨rfl, ⟨nd, rfl⟩⟩; refine ⟨_, rfl, ?_⟩))
                  go_ret
                  exact ⟨by first | rfl | (simp [errW_none, errW_some] <;> rfl) | (simp [*, errW_none, errW_some] <;> rfl), by repeat (first | (with_reducible first | exact HB.out | apply below_alloc | apply pw_below_drewN | apply below_drew1) | exact HB.out)⟩
              · rw [if_neg c33] at H
                have c33b0 : (t155 == t157) = false := beq_eq_false_iff_ne.mpr c33
                have c33b1 : (t155 != t157) = true := bne_iff_ne.mpr c33
                obtain rfl := Option.some.inj H
                go_wp2_with (first | ((with_reducible refine gate_callee (f := 16) rfl ?_); refine goesL_ (some 45) rfl rfl Try.func16 (by kernel_rfl) rfl #[.slice Ao14 y142.length co14, .int .i64 a1] rfl (by (try simp only [List.map_toArray, List.map_cons, List.map_nil]); first | done | rfl | (simp only [List.length_drop, List.length_take]; rfl)) ?_; (with_reducible refine (ranges_Scalar.calls kj8 _ _ y142 a1 t155 t156 _ ?side1 ?side2 A29.out).mono ?_); (case side1 => repeat (first | exact (Kd.R_reads' HO_7.out).2.2 | (with_reducible refine Kd.C_alloc ?_ _) | (with_reducible refine Kd.C_drewN ?_ _) | (with_reducible refine Kd.C_drew ?_))); (case side2 => exact (Kd.R_reads' HO_7.out).2.1); rintro e w45 ⟨rfl, hb⟩; refine ⟨_, rfl, ?_⟩; have n0_ := Aside0.mk (Kd.R_below (by (with_reducible repeat (first | apply Kd.R_alloc | apply Kd.R_drewN | apply Kd.R_drew)); exact HO_7.out) hb); have n1_ := Aside0.mk (Kd.R_below (by (with_reducible repeat (first | apply Kd.R_alloc | apply Kd.R_drewN | apply Kd.R_drew)); exact HO_9.out) hb); have n2_ := Aside0.mk (below_step (by repeat (first | (with_reducible first | exact HB.out | apply below_alloc | apply pw_below_drewN | apply below_drew1) | exact HB.out)) hb); clear HO_7; clear HO_9; clear HB; have HO_7 := n0_; have HO_9 := n1_; have HB := n2_; clear n0_ n1_ n2_; (try clear hb); (try clear hb2); (try clear hk); (try clear hi); obtain ⟨Ao46, co46, eo46⟩ := Kd.R_slice HO_9.out; subst eo46) | ((with_reducible refine gate_callee (f := 17) rfl ?_); refine goesL_ (some 51) rfl rfl Try.func17 (by kernel_rfl) rfl #[.slice Ao46 t147.length co46, .int .i64 a1] rfl (by (try simp only [List.map_toArray, List.map_cons, List.map_nil]); first | done | rfl | (simp only [List.length_drop, List.length_take]; rfl)) ?_; (with_reducible refine (dragomanref06_Scalar.calls kj8 _ _ t147 a1 t157 t158 _ ?side1 ?side2 A30.out).mono ?_); (case side1 => repeat (first | exact (Kd.R_reads' HO_9.out).2.2 | (with_reducible refine Kd.C_alloc ?_ _) | (with_reducible refine Kd.C_drewN ?_ _) | (with_reducible refine Kd.C_drew ?_))); (case side2 => exact (Kd.R_reads' HO_9.out).2.1); rintro e w' ⟨rfl, ⟨nd, rfl⟩⟩; refine ⟨_, rfl, ?_⟩) | ((with_reducible refine gate_callee (f := 18) rfl ?_); refine goesL_ (some 57) rfl rfl Try.func18 (by kernel_rfl) rfl #[.slice Ao14 y142.length co14, .int .i32 a2] rfl (by (try simp only [List.map_toArray, List.map_cons, List.map_nil]); first | done | rfl | (simp only [List.length_drop, List.length_take]; rfl)) ?_; (with_reducible refine (ranges_Code.calls kj8 _ _ y142 a2 t159 t160 _ ?side1 ?side2 A31.out).mono ?_); (case side1 => repeat (first | exact (Kd.R_reads' HO_7.out).2.2 | (with_reducible refine Kd.C_alloc ?_ _) | (with_reducible refine Kd.C_drewN ?_ _) | (with_reducible refine Kd.C_drew ?_))); (case side2 => exact (Kd.R_reads' HO_7.out).2.1); rintro e w47 ⟨rfl, hb⟩; refine ⟨_, rfl, ?_⟩; have n0_ := Aside0.mk (Kd.R_below (by (with_reducible repeat (first | apply Kd.R_alloc | apply Kd.R_drewN | apply Kd.R_drew)); exact HO_7.out) hb); have n1_ := Aside0.mk (Kd.R_below (by (with_reducible repeat (first | apply Kd.R_alloc | apply Kd.R_drewN | apply Kd.R_drew)); exact HO_9.out) hb); have n2_ := Aside0.mk (below_step (by repeat (first | (with_reducible first | exact HB.out | apply below_alloc | apply pw_below_drewN | apply below_drew1) | exact HB.out)) hb); clear HO_7; clear HO_9; clear HB; have HO_7 := n0_; have HO_9 := n1_; have HB := n2_; clear n0_ n1_ n2_; (try clear hb); (try clear hb2); (try clear hk); (try clear hi)) | ((with_reducible refine gate_callee (f := 19) rfl ?_); refine goesL_ (some 63) rfl rfl Try.func19 (by kernel_rfl) rfl #[.slice Ao46 t147.length co46, .int .i32 a2] rfl (by (try simp only [List.map_toArray, List.map_cons, List.map_nil]); first | done | rfl | (simp only [List.length_drop, List.length_take]; rfl)) ?_; (with_reducible refine (dragomanref06_Code.calls kj8 _ _ t147 a2 t161 t162 _ ?side1 ?side2 A32.out).mono ?_); (case side1 => repeat (first | exact (Kd.R_reads' HO_9.out).2.2 | (with_reducible refine Kd.C_alloc ?_ _) | (with_reducible refine Kd.C_drewN ?_ _) | (with_reducible refine Kd.C_drew ?_))); (case side2 => exact (Kd.R_reads' HO_9.out).2.1); rintro e w' ⟨rfl, ⟨nd, rfl⟩⟩; refine ⟨_, rfl, ?_⟩))
                go_ret
                exact ⟨by first | rfl | (simp [errW_none, errW_some] <;> rfl) | (simp [*, errW_none, errW_some] <;> rfl), by repeat (first | (with_reducible first | exact HB.out | apply below_alloc | apply pw_below_drewN | apply below_drew1) | exact HB.out)⟩
            · rw [if_neg c28] at H
              have c28b0 : (t145 == 0) = false := beq_eq_false_iff_ne.mpr c28
              have c28b1 : (t145 != 0) = true := bne_iff_ne.mpr c28
              obtain rfl := Option.some.inj H
              go_wp2
              go_ret
              exact ⟨by first | rfl | (simp [errW_none, errW_some] <;> rfl) | (simp [*, errW_none, errW_some] <;> rfl), by repeat (first | (with_reducible first | exact HB.out | apply below_alloc | apply pw_below_drewN | apply below_drew1) | exact HB.out)⟩
    · rw [if_neg c7] at H
      have c7b0 : (t146 == t145) = false := beq_eq_false_iff_ne.mpr c7
      have c7b1 : (t146 != t145) = true := bne_iff_ne.mpr c7
      obtain rfl := Option.some.inj H
      go_enter Try.func4, Try.ntmps4
      go_wp2_with (first | ((with_reducible refine gate_dst (N := 18) rfl ?_); refine Kd.R_lit k44 _ 44 ?hg (N := 18) ?hd (xs := ([] : List (S44))) (inner := []) (ok := fun _ => True) (okp := fun _ => True) ?hr ?hp (fun _ hk => hk) trivial (Below.refl _ _) (Nat.le_refl _) (by simp) ?_; (case hd => rfl); (case hg => rfl); (case hr => first | (go_simp; done) | (go_simp; rfl)); (case hp => exact (Reps.none _ _)); intro v140 w48 ho49 hb hg_ hnew_; clear hg_ hnew_; (first | rw [← Ny139.out] at ho49 | (simp only [Int.reduceToNat] at ho49; rw [← Ny139.out] at ho49)); have n0_ := Aside0.mk (Kd.R_lower ho49 (below_size (by repeat (first | (with_reducible first | exact HB.out | apply below_alloc | apply pw_below_drewN | apply below_drew1) | exact HB.out)))); have n1_ := Aside0.mk (below_step (by repeat (first | (with_reducible first | exact HB.out | apply below_alloc | apply pw_below_drewN | apply below_drew1) | exact HB.out)) hb); clear HB; have HO141 := n0_; have HB := n1_; clear n0_ n1_; clear hb ho49) | ((with_reducible refine gate_builtin (b := .append) (xs := #[.tmp 18, .tmp 19]) rfl ?_); at_builtin; refine Kd.R_append_rows k44 (w0 := w) w.heap.size rfl (.tmp 18) (.tmp 19) 23 44 (.agg #[(.int .i64 0), (.int .i64 0), (.int .i32 0)]) 24 rfl Try.underlying23 info44 rfl (by decide) (by omega) v140 y139 l0 _ _ _ (fun _ => True) (fun _ => False) rfl rfl ?aO ?aR (fun _ _ h => h) (fun _ h => h.elim) ?aF ?aB ?aS ?aL ?_; (case aR => repeat (first | exact (Kd.C_below HR0.out HB.out) | (with_reducible refine Kd.C_alloc ?_ _) | (with_reducible refine Kd.C_drewN ?_ _) | (with_reducible refine Kd.C_drew ?_))); (case aB => exact (by repeat (first | (with_reducible first | exact HB.out | apply below_alloc | apply pw_below_drewN | apply below_drew1) | exact HB.out))); (case aF => exact (fun _ _ => trivial)); (case aO => exact (by (with_reducible repeat (first | apply Kd.R_alloc | apply Kd.R_drewN | apply Kd.R_drew)); exact HO141.out)); (case aS => exact (below_size (by repeat (first | (with_reducible first | exact HB.out | apply below_alloc | apply pw_below_drewN | apply below_drew1) | exact HB.out)))); (case aL => have := LMc4.out; omega); intro v143 w50 ho hb hg hat; rw [← Ny142.out] at ho; have n0_ := Aside0.mk (hb); have n1_ := Aside0.mk (ho); clear HB; clear HO141; have HB := n0_; have HO144 := n1_; clear n0_ n1_; clear ho hb hg hat) | ((with_reducible refine gate_callee (f := 12) rfl ?_); refine goesL_ (some 22) rfl rfl Try.func12 (by kernel_rfl) rfl #[.slice A0 l0.length c0] rfl (by (try simp only [List.map_toArray, List.map_cons, List.map_nil]); first | done | rfl | (simp only [List.length_drop, List.length_take]; rfl)) ?_; (with_reducible refine (dragomanref06_Check.calls k _ _ l0 t145 _ ?side1 ?side2 A5.out).mono ?_); (case side1 => repeat (first | exact (Kd.C_below HR0.out HB.out) | (with_reducible refine Kd.C_alloc ?_ _) | (with_reducible refine Kd.C_drewN ?_ _) | (with_reducible refine Kd.C_drew ?_))); (case side2 => exact HC0.out); rintro e w51 ⟨rfl, hb⟩; refine ⟨_, rfl, ?_⟩; have n0_ := Aside0.mk (Kd.R_below (by (with_reducible repeat (first | apply Kd.R_alloc | apply Kd.R_drewN | apply Kd.R_drew)); exact HO144.out) hb); have n1_ := Aside0.mk (below_step (by repeat (first | (with_reducible first | exact HB.out | apply below_alloc | apply pw_below_drewN | apply below_drew1) | exact HB.out)) hb); clear HO144; clear HB; have HO144 := n0_; have HB := n1_; clear n0_ n1_; (try clear hb); (try clear hb2); (try clear hk); (try clear hi); obtain ⟨Ao52, co52, eo52⟩ := Kd.R_slice HO144.out; subst eo52) | ((with_reducible refine gate_callee (f := 13) rfl ?_); refine goesL_ (some 24) rfl rfl Try.func13 (by kernel_rfl) rfl #[.slice Ao52 y142.length co52] rfl (by (try simp only [List.map_toArray, List.map_cons, List.map_nil]); first | done | rfl | (simp only [List.length_drop, List.length_take]; rfl)) ?_; (with_reducible refine (ranges_Check.calls k _ _ y142 t146 _ ?side1 ?side2 A6.out).mono ?_); (case side1 => repeat (first | exact (Kd.R_reads' HO144.out).2.2 | (with_reducible refine Kd.C_alloc ?_ _) | (with_reducible refine Kd.C_drewN ?_ _) | (with_reducible refine Kd.C_drew ?_))); (case side2 => exact (Kd.R_reads' HO144.out).2.1); rintro e w53 ⟨rfl, hb⟩; refine ⟨_, rfl, ?_⟩; have n0_ := Aside0.mk (Kd.R_below (by (with_reducible repeat (first | apply Kd.R_alloc | apply Kd.R_drewN | apply Kd.R_drew)); exact HO144.out) hb); have n1_ := Aside0.mk (below_step (by repeat (first | (with_reducible first | exact HB.out | apply below_alloc | apply pw_below_drewN | apply below_drew1) | exact HB.out)) hb); clear HO144; clear HB; have HO144 := n0_; have HB := n1_; clear n0_ n1_; (try clear hb); (try clear hb2); (try clear hk); (try clear hi)))
      go_ret
      exact ⟨by first | rfl | (simp [errW_none, errW_some] <;> rfl) | (simp [*, errW_none, errW_some] <;> rfl), by repeat (first | (with_reducible first | exact HB.out | apply below_alloc | apply pw_below_drewN | apply below_drew1) | exact HB.out)⟩
  · rw [if_neg c4] at H
    exact absurd H (by simp)

end Go.Proofs.Ytnapldildjnchaa.PRangesTells
