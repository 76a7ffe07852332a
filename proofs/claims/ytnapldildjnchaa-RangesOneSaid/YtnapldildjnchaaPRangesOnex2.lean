/- RangesOne: what the functions answer, and their walks; ranges.Scalar is given by YtnapldildjnchaaGRangesOne. Written by a program of ours over the print. -/
import Derived.Test.YtnapldildjnchaaPRangesOnex0
import Derived.Test.YtnapldildjnchaaPRangesOnex1
import Derived.Test.YtnapldildjnchaaGRangesOne
namespace Go.Proofs.Ytnapldildjnchaa.PRangesOne
open Go.RowKit Go.Proofs.YtnapldildjnchaaW.PrintWords Go.Proofs.YtnapldildjnchaaW.PrintLast Go.Proofs.YtnapldildjnchaaW.PrintMore
attribute [local go_sem] max2_int min2_int max_two min_two max_three min_three max_four min_four   -- for this text's walks alone
set_option linter.unusedVariables false
set_option linter.unusedSimpArgs false

/-! ### ranges_Code: function 18 -/
def ranges_Code.l0 : Nat → Int → List (S44) → Int → Int → Option (Int × Bool)
  | 0, _, _, _, _ => none
  | k + 1, x1, x9, x10, x11 => if x11 < x10 then (if 0 ≤ x11 then (if x11 < (x9.length : Int) then (if (wrap64 ((wrap64 (x1)) - (wrap64 ((rd_T44 x9 x11).f2)))) ≥ 0 then (if (wrap64 ((wrap64 (x1)) - (wrap64 ((rd_T44 x9 x11).f2)))) ≤ (wrap64 (((rd_T44 x9 x11).f1) - ((rd_T44 x9 x11).f0))) then (some (wrap64 (((rd_T44 x9 x11).f0) + (wrap64 ((wrap64 (x1)) - (wrap64 ((rd_T44 x9 x11).f2))))), true)) else (ranges_Code.l0 k x1 x9 x10 (wrap64 (x11 + 1)))) else (ranges_Code.l0 k x1 x9 x10 (wrap64 (x11 + 1)))) else (none)) else (none)) else (some (0, false))
def ranges_Code.f (k : Nat) (l0 : List (S44)) (a1 : Int) : Option (Int × Bool) := ranges_Code.l0 k a1 l0 (l0.length : Int) 0
theorem ranges_Code.mono_l : ∀ k, (∀ y0 y1 y2 y3, LeO (ranges_Code.l0 k y0 y1 y2 y3) (ranges_Code.l0 (k + 1) y0 y1 y2 y3))
  | 0 => fun _ _ _ _ r h => by simp [ranges_Code.l0] at h
  | k + 1 => by
    have ih0 := ranges_Code.mono_l k
    · intro y0 y1 y2 y3
      unfold ranges_Code.l0
      repeat' first
      | (with_reducible exact ih0 _ _ _ _)
      | (with_reducible exact LeO.refl _)
      | (with_reducible exact LeO.none _)
      | (with_reducible refine LeO.ite ?_ ?_)
      | (with_reducible refine LeO.bind ?_ (fun _ => ?_))
      | exact ih0 _ _ _ _
      | exact LeO.none _
      | refine LeO.ite ?_ ?_
      | refine LeO.bind ?_ (fun _ => ?_)
theorem ranges_Code.mono : ∀ a0 a1 k, LeO (ranges_Code.f k a0 a1) (ranges_Code.f (k + 1) a0 a1) := by
  intro a0 a1 k
  have ih0 := ranges_Code.mono_l k
  unfold ranges_Code.f
  repeat' first
      | (with_reducible exact ih0 _ _ _ _)
      | (with_reducible exact LeO.refl _)
      | (with_reducible exact LeO.none _)
      | (with_reducible refine LeO.ite ?_ ?_)
      | (with_reducible refine LeO.bind ?_ (fun _ => ?_))
      | exact ih0 _ _ _ _
      | exact LeO.none _
      | refine LeO.ite ?_ ?_
      | refine LeO.bind ?_ (fun _ => ?_)
set_option maxHeartbeats 8000000 in
set_option maxRecDepth 100000 in
theorem ranges_Code.calls (k : Nat) (A0 : Option Addr) (c0 : Nat) (l0 : List (S44)) (a1 : Int) (r1 : Int) (r2 : Bool) (w : World) (hr0 : Kd.C k44 w A0 l0.length l0) (hc0 : l0.length ≤ c0) (h : ranges_Code.f k l0 a1 = some (r1, r2)) :
    Calls Try.prog 18 #[.slice A0 l0.length c0, .int .i32 a1] w fun e w' => e = .returned (.tuple #[.int .i64 r1, .bool r2]) ∧ Below w.heap.size w w' := by
  have hu44 := Try.underlying44
  have HR0 := Aside0.mk hr0
  have HC0 := Aside0.mk hc0
  clear hr0 hc0
  have HB := Aside0.mk (Below.refl w.heap.size w)
  have H : (ranges_Code.l0 k a1 l0 (l0.length : Int) 0) = some (r1, r2) := h
  clear h
  have H' := Aside0.mk H
  clear H
  go_enter Try.func18, Try.ntmps18
  go_wp2
  go_loopg [11] k (fun kq v11 w' => ∃ (x11_1 : Int), v11 = .int .i64 x11_1 ∧ Aside0 (ranges_Code.l0 kq a1 l0 (l0.length : Int) x11_1 = some (r1, r2)) ∧ Aside0 (kq ≤ k) ∧ Aside0 (Below w.heap.size w w'))
  case atStart => exact ⟨(0), (by first | rfl | (simp; done) | (simp [*]; done)), H', ⟨Nat.le_refl _⟩, ⟨by repeat (first | (with_reducible first | exact HB.out | apply below_alloc | apply pw_below_drewN | apply below_drew1) | exact HB.out)⟩⟩
  case round =>
    clear H'
    try clear c1
    try clear p2
    obtain ⟨x11_1, rfl, HA, HK1, HB⟩ := hrel
    cases gk with
    | zero => exact absurd HA.out (by simp [ranges_Code.l0])
    | succ k1 =>
      have H := HA.out
      clear HA
      simp only [ranges_Code.l0] at H
      by_cases c3 : x11_1 < (l0.length : Int)
      · rw [if_pos c3] at H
        have c3b0 : decide (x11_1 < (l0.length : Int)) = true := decide_eq_true c3
        clear c3
        by_cases c4 : 0 ≤ x11_1
        · rw [if_pos c4] at H
          have c4b0 : decide (0 ≤ x11_1) = true := decide_eq_true c4
          clear c4
          by_cases c5 : x11_1 < (l0.length : Int)
          · rw [if_pos c5] at H
            have c5b0 : decide (x11_1 < (l0.length : Int)) = true := decide_eq_true c5
            clear c5
            by_cases c6 : (wrap64 ((wrap64 (a1)) - (wrap64 ((rd_T44 l0 x11_1).f2)))) ≥ 0
            · rw [if_pos c6] at H
              have c6b0 : decide (0 ≤ (wrap64 ((wrap64 (a1)) - (wrap64 ((rd_T44 l0 x11_1).f2))))) = true := decide_eq_true c6
              clear c6
              by_cases c7 : (wrap64 ((wrap64 (a1)) - (wrap64 ((rd_T44 l0 x11_1).f2)))) ≤ (wrap64 (((rd_T44 l0 x11_1).f1) - ((rd_T44 l0 x11_1).f0)))
              · rw [if_pos c7] at H
                have c7b0 : decide ((wrap64 ((wrap64 (a1)) - (wrap64 ((rd_T44 l0 x11_1).f2)))) ≤ (wrap64 (((rd_T44 l0 x11_1).f1) - ((rd_T44 l0 x11_1).f0)))) = true := decide_eq_true c7
                clear c7
                simp only [Option.some.injEq, Prod.mk.injEq] at H
                obtain ⟨rfl, rfl⟩ := H
                have p115 : 0 ≤ (x11_1 : Int) := of_decide_eq_true (by first | (with_reducible assumption) | assumption)
                have q115 : x11_1 < (l0.length : Int) := of_decide_eq_true (by first | (with_reducible assumption) | assumption)
                obtain ⟨ad115, e115, hx115_0, hx115_1, hx115_2⟩ := at_T44 HR0.out x11_1 p115 q115
                cases e115
                replace hx115_0 := (HB.out.cell (World.block_lt_of_cell? w _ hx115_0)).trans hx115_0
                replace hx115_1 := (HB.out.cell (World.block_lt_of_cell? w _ hx115_1)).trans hx115_1
                replace hx115_2 := (HB.out.cell (World.block_lt_of_cell? w _ hx115_2)).trans hx115_2
                replace p115 := eq_true p115
                replace q115 := eq_true q115
                go_wp2_with (first | ((with_reducible refine gate_dst (N := 7) rfl ?_); refine box_event ?hg (N := 7) ?hd (cs := #[.int .i64 0, .int .i64 0, .int .i32 0]) (t := 44) ?hr ?_; (case hd => rfl); (case hg => rfl); (case hr => first | (go_simp; done) | (go_simp; rfl)); intro gb116 hg w8 hbox hb; have n0_ := Aside0.mk (below_step (by repeat (first | (with_reducible first | exact HB.out | apply below_alloc | apply pw_below_drewN | apply below_drew1) | exact HB.out)) hb); have n1_ := Aside0.mk (hbox); have n2_ := Aside0.mk ((by rw [hg]; exact (below_size (by repeat (first | (with_reducible first | exact HB.out | apply below_alloc | apply pw_below_drewN | apply below_drew1) | exact HB.out))) : w.heap.size ≤ gb116)); have n3_ := Aside0.mk ((by rw [hg]; exact (below_size (by repeat (first | (with_reducible first | exact HB.out | apply below_alloc | apply pw_below_drewN | apply below_drew1) | exact HB.out))) : w.heap.size ≤ gb116)); clear HB; have HB := n0_; have BK116 := n1_; have GW116 := n2_; have GE116 := n3_; clear n0_ n1_ n2_ n3_; clear hb hbox hg; have hcz9_0 : w8.cell? ⟨gb116, 0, none⟩ = some (.int .i64 0) := (blk_cell BK116.out 0).trans rfl; have hcz9_1 : w8.cell? ⟨gb116, 1, none⟩ = some (.int .i64 0) := (blk_cell BK116.out 1).trans rfl; have hcz9_2 : w8.cell? ⟨gb116, 2, none⟩ = some (.int .i32 0) := (blk_cell BK116.out 2).trans rfl; have hfz9_0 := blk_frozen BK116.out 0; have hfz9_1 := blk_frozen BK116.out 1; have hfz9_2 := blk_frozen BK116.out 2))
                go_ret2
                exact ⟨by first | rfl | (simp [errW_none, errW_some] <;> rfl) | (simp [*, errW_none, errW_some] <;> rfl), by repeat (first | (with_reducible first | exact HB.out | apply below_alloc | apply pw_below_drewN | apply below_drew1 | refine below_set ?_ GE116.out) | exact HB.out)⟩
              · rw [if_neg c7] at H
                have c7b0 : decide ((wrap64 ((wrap64 (a1)) - (wrap64 ((rd_T44 l0 x11_1).f2)))) ≤ (wrap64 (((rd_T44 l0 x11_1).f1) - ((rd_T44 l0 x11_1).f0)))) = false := decide_eq_false c7
                clear c7
                have H' := Aside0.mk H
                clear H
                have p115 : 0 ≤ (x11_1 : Int) := of_decide_eq_true (by first | (with_reducible assumption) | assumption)
                have q115 : x11_1 < (l0.length : Int) := of_decide_eq_true (by first | (with_reducible assumption) | assumption)
                obtain ⟨ad115, e115, hx115_0, hx115_1, hx115_2⟩ := at_T44 HR0.out x11_1 p115 q115
                cases e115
                replace hx115_0 := (HB.out.cell (World.block_lt_of_cell? w _ hx115_0)).trans hx115_0
                replace hx115_1 := (HB.out.cell (World.block_lt_of_cell? w _ hx115_1)).trans hx115_1
                replace hx115_2 := (HB.out.cell (World.block_lt_of_cell? w _ hx115_2)).trans hx115_2
                replace p115 := eq_true p115
                replace q115 := eq_true q115
                go_wp2_with (first | ((with_reducible refine gate_dst (N := 7) rfl ?_); refine box_event ?hg (N := 7) ?hd (cs := #[.int .i64 0, .int .i64 0, .int .i32 0]) (t := 44) ?hr ?_; (case hd => rfl); (case hg => rfl); (case hr => first | (go_simp; done) | (go_simp; rfl)); intro gb116 hg w10 hbox hb; have n0_ := Aside0.mk (below_step (by repeat (first | (with_reducible first | exact HB.out | apply below_alloc | apply pw_below_drewN | apply below_drew1) | exact HB.out)) hb); have n1_ := Aside0.mk (hbox); have n2_ := Aside0.mk ((by rw [hg]; exact (below_size (by repeat (first | (with_reducible first | exact HB.out | apply below_alloc | apply pw_below_drewN | apply below_drew1) | exact HB.out))) : w.heap.size ≤ gb116)); have n3_ := Aside0.mk ((by rw [hg]; exact (below_size (by repeat (first | (with_reducible first | exact HB.out | apply below_alloc | apply pw_below_drewN | apply below_drew1) | exact HB.out))) : w.heap.size ≤ gb116)); clear HB; have HB := n0_; have BK116 := n1_; have GW116 := n2_; have GE116 := n3_; clear n0_ n1_ n2_ n3_; clear hb hbox hg; have hcz11_0 : w10.cell? ⟨gb116, 0, none⟩ = some (.int .i64 0) := (blk_cell BK116.out 0).trans rfl; have hcz11_1 : w10.cell? ⟨gb116, 1, none⟩ = some (.int .i64 0) := (blk_cell BK116.out 1).trans rfl; have hcz11_2 : w10.cell? ⟨gb116, 2, none⟩ = some (.int .i32 0) := (blk_cell BK116.out 2).trans rfl; have hfz11_0 := blk_frozen BK116.out 0; have hfz11_1 := blk_frozen BK116.out 1; have hfz11_2 := blk_frozen BK116.out 2))
                go_roundg k1
                case measure => have := HK1.out; omega
                case rel => exact ⟨(wrap64 (x11_1 + 1)), (by first | rfl | (simp; done) | (simp [*]; done)), H', ⟨by have := HK1.out; omega⟩, ⟨by repeat (first | (with_reducible first | exact HB.out | apply below_alloc | apply pw_below_drewN | apply below_drew1 | refine below_set ?_ GE116.out) | exact HB.out)⟩⟩
            · rw [if_neg c6] at H
              have c6b0 : decide (0 ≤ (wrap64 ((wrap64 (a1)) - (wrap64 ((rd_T44 l0 x11_1).f2))))) = false := decide_eq_false c6
              clear c6
              have H' := Aside0.mk H
              clear H
              have p115 : 0 ≤ (x11_1 : Int) := of_decide_eq_true (by first | (with_reducible assumption) | assumption)
              have q115 : x11_1 < (l0.length : Int) := of_decide_eq_true (by first | (with_reducible assumption) | assumption)
              obtain ⟨ad115, e115, hx115_0, hx115_1, hx115_2⟩ := at_T44 HR0.out x11_1 p115 q115
              cases e115
              replace hx115_0 := (HB.out.cell (World.block_lt_of_cell? w _ hx115_0)).trans hx115_0
              replace hx115_1 := (HB.out.cell (World.block_lt_of_cell? w _ hx115_1)).trans hx115_1
              replace hx115_2 := (HB.out.cell (World.block_lt_of_cell? w _ hx115_2)).trans hx115_2
              replace p115 := eq_true p115
              replace q115 := eq_true q115
              go_wp2_with (first | ((with_reducible refine gate_dst (N := 7) rfl ?_); refine box_event ?hg (N := 7) ?hd (cs := #[.int .i64 0, .int .i64 0, .int .i32 0]) (t := 44) ?hr ?_; (case hd => rfl); (case hg => rfl); (case hr => first | (go_simp; done) | (go_simp; rfl)); intro gb116 hg w12 hbox hb; have n0_ := Aside0.mk (below_step (by repeat (first | (with_reducible first | exact HB.out | apply below_alloc | apply pw_below_drewN | apply below_drew1) | exact HB.out)) hb); have n1_ := Aside0.mk (hbox); have n2_ := Aside0.mk ((by rw [hg]; exact (below_size (by repeat (first | (with_reducible first | exact HB.out | apply below_alloc | apply pw_below_drewN | apply below_drew1) | exact HB.out))) : w.heap.size ≤ gb116)); have n3_ := Aside0.mk ((by rw [hg]; exact (below_size (by repeat (first | (with_reducible first | exact HB.out | apply below_alloc | apply pw_below_drewN | apply below_drew1) | exact HB.out))) : w.heap.size ≤ gb116)); clear HB; have HB := n0_; have BK116 := n1_; have GW116 := n2_; have GE116 := n3_; clear n0_ n1_ n2_ n3_; clear hb hbox hg; have hcz13_0 : w12.cell? ⟨gb116, 0, none⟩ = some (.int .i64 0) := (blk_cell BK116.out 0).trans rfl; have hcz13_1 : w12.cell? ⟨gb116, 1, none⟩ = some (.int .i64 0) := (blk_cell BK116.out 1).trans rfl; have hcz13_2 : w12.cell? ⟨gb116, 2, none⟩ = some (.int .i32 0) := (blk_cell BK116.out 2).trans rfl; have hfz13_0 := blk_frozen BK116.out 0; have hfz13_1 := blk_frozen BK116.out 1; have hfz13_2 := blk_frozen BK116.out 2))
              go_roundg k1
              case measure => have := HK1.out; omega
              case rel => exact ⟨(wrap64 (x11_1 + 1)), (by first | rfl | (simp; done) | (simp [*]; done)), H', ⟨by have := HK1.out; omega⟩, ⟨by repeat (first | (with_reducible first | exact HB.out | apply below_alloc | apply pw_below_drewN | apply below_drew1 | refine below_set ?_ GE116.out) | exact HB.out)⟩⟩
          · rw [if_neg c5] at H
            exact absurd H (by simp)
        · rw [if_neg c4] at H
          exact absurd H (by simp)
      · rw [if_neg c3] at H
        have c3b0 : decide (x11_1 < (l0.length : Int)) = false := decide_eq_false c3
        clear c3
        simp only [Option.some.injEq, Prod.mk.injEq] at H
        obtain ⟨rfl, rfl⟩ := H
        go_wp2
        go_ret2
        exact ⟨by first | rfl | (simp [errW_none, errW_some] <;> rfl) | (simp [*, errW_none, errW_some] <;> rfl), by repeat (first | (with_reducible first | exact HB.out | apply below_alloc | apply pw_below_drewN | apply below_drew1) | exact HB.out)⟩

/-! ### ranges_Pack: function 8 -/
mutual
def ranges_Pack.l0 : Nat → List (S44) → Int → List (S41) → Int → Int → Option ((List (S44)) × Int)
  | 0, _, _, _, _, _ => none
  | k + 1, x4, x5, x12, x13, x14 => if x14 < x13 then (if 0 ≤ x14 then (if x14 < (x12.length : Int) then (if ((rd_T41 x12 x14).f0) ≤ x5 then (ranges_Pack.j1 k x4 x5 x12 x13 x14 true ((rd_T41 x12 x14).f0) ((rd_T41 x12 x14).f1)) else (if ((rd_T41 x12 x14).f0) > 16777215 then (ranges_Pack.j1 k x4 x5 x12 x13 x14 true ((rd_T41 x12 x14).f0) ((rd_T41 x12 x14).f1)) else ((ucs_Scalar.f ((rd_T41 x12 x14).f1)).bind fun t119 => (ranges_Pack.j1 k x4 x5 x12 x13 x14 (!t119) ((rd_T41 x12 x14).f0) ((rd_T41 x12 x14).f1))))) else (none)) else (none)) else (some (x4, 0))
def ranges_Pack.j1 : Nat → List (S44) → Int → List (S41) → Int → Int → Bool → Int → Int → Option ((List (S44)) × Int)
  | 0, _, _, _, _, _, _, _, _ => none
  | k + 1, x4, x5, x12, x13, x14, x32, x119000, x119001 => if x32 = true then (some (([] : List (S44)), 3)) else (if (x4.length : Int) > 0 then (if x119000 = (wrap64 (x5 + 1)) then (if 0 ≤ (wrap64 ((x4.length : Int) - 1)) then (if (wrap64 ((x4.length : Int) - 1)) < (x4.length : Int) then (ranges_Pack.j2 k x4 (x4.length : Int) x12 x13 x14 ((wrap64 ((wrap64 (x119001)) - (wrap64 ((rd_T44 x4 (wrap64 ((x4.length : Int) - 1))).f2)))) == (wrap64 (x119000 - ((rd_T44 x4 (wrap64 ((x4.length : Int) - 1))).f0)))) x119000 x119001) else (none)) else (none)) else (ranges_Pack.j2 k x4 (x4.length : Int) x12 x13 x14 false x119000 x119001)) else (ranges_Pack.j2 k x4 (x4.length : Int) x12 x13 x14 false x119000 x119001))
def ranges_Pack.j2 : Nat → List (S44) → Int → List (S41) → Int → Int → Bool → Int → Int → Option ((List (S44)) × Int)
  | 0, _, _, _, _, _, _, _, _ => none
  | k + 1, x4, x8, x12, x13, x14, x66, x119000, x119001 => if x66 = true then (if 0 ≤ (wrap64 (x8 - 1)) then (if (wrap64 (x8 - 1)) < (x4.length : Int) then (ranges_Pack.l0 k (x4.set ((wrap64 (x8 - 1)) : Int).toNat (⟨(rd_T44 x4 (wrap64 (x8 - 1))).f0, x119000, (rd_T44 x4 (wrap64 (x8 - 1))).f2⟩ : S44)) x119000 x12 x13 (wrap64 (x14 + 1))) else (none)) else (none)) else (if x4.length < 5864062014805 then (ranges_Pack.l0 k (x4 ++ [(⟨x119000, x119000, x119001⟩ : S44)]) x119000 x12 x13 (wrap64 (x14 + 1))) else (none))
end
def ranges_Pack.f (k : Nat) (l0 : List (S41)) : Option ((List (S44)) × Int) := if (l0.length : Int) > 65536 then (some (([] : List (S44)), 8)) else (ranges_Pack.l0 k ([] : List (S44)) (-1) l0 (l0.length : Int) 0)
theorem ranges_Pack.mono_l : ∀ k, (∀ y0 y1 y2 y3 y4, LeO (ranges_Pack.l0 k y0 y1 y2 y3 y4) (ranges_Pack.l0 (k + 1) y0 y1 y2 y3 y4)) ∧ (∀ y0 y1 y2 y3 y4 y5 y6 y7, LeO (ranges_Pack.j1 k y0 y1 y2 y3 y4 y5 y6 y7) (ranges_Pack.j1 (k + 1) y0 y1 y2 y3 y4 y5 y6 y7)) ∧ (∀ y0 y1 y2 y3 y4 y5 y6 y7, LeO (ranges_Pack.j2 k y0 y1 y2 y3 y4 y5 y6 y7) (ranges_Pack.j2 (k + 1) y0 y1 y2 y3 y4 y5 y6 y7))
  | 0 => ⟨fun _ _ _ _ _ r h => by simp [ranges_Pack.l0] at h, fun _ _ _ _ _ _ _ _ r h => by simp [ranges_Pack.j1] at h, fun _ _ _ _ _ _ _ _ r h => by simp [ranges_Pack.j2] at h⟩
  | k + 1 => by
    obtain ⟨ih0, ih1, ih2⟩ := ranges_Pack.mono_l k
    refine ⟨?_, ?_, ?_⟩
    · intro y0 y1 y2 y3 y4
      unfold ranges_Pack.l0
      repeat' first
      | (with_reducible exact ih0 _ _ _ _ _)
      | (with_reducible exact ih1 _ _ _ _ _ _ _ _)
      | (with_reducible exact ih2 _ _ _ _ _ _ _ _)
      | (with_reducible exact LeO.refl _)
      | (with_reducible exact LeO.none _)
      | (with_reducible refine LeO.ite ?_ ?_)
      | (with_reducible refine LeO.bind ?_ (fun _ => ?_))
      | exact ih0 _ _ _ _ _
      | exact ih1 _ _ _ _ _ _ _ _
      | exact ih2 _ _ _ _ _ _ _ _
      | exact LeO.none _
      | refine LeO.ite ?_ ?_
      | refine LeO.bind ?_ (fun _ => ?_)
    · intro y0 y1 y2 y3 y4 y5 y6 y7
      unfold ranges_Pack.j1
      repeat' first
      | (with_reducible exact ih0 _ _ _ _ _)
      | (with_reducible exact ih1 _ _ _ _ _ _ _ _)
      | (with_reducible exact ih2 _ _ _ _ _ _ _ _)
      | (with_reducible exact LeO.refl _)
      | (with_reducible exact LeO.none _)
      | (with_reducible refine LeO.ite ?_ ?_)
      | (with_reducible refine LeO.bind ?_ (fun _ => ?_))
      | exact ih0 _ _ _ _ _
      | exact ih1 _ _ _ _ _ _ _ _
      | exact ih2 _ _ _ _ _ _ _ _
      | exact LeO.none _
      | refine LeO.ite ?_ ?_
      | refine LeO.bind ?_ (fun _ => ?_)
    · intro y0 y1 y2 y3 y4 y5 y6 y7
      unfold ranges_Pack.j2
      repeat' first
      | (with_reducible exact ih0 _ _ _ _ _)
      | (with_reducible exact ih1 _ _ _ _ _ _ _ _)
      | (with_reducible exact ih2 _ _ _ _ _ _ _ _)
      | (with_reducible exact LeO.refl _)
      | (with_reducible exact LeO.none _)
      | (with_reducible refine LeO.ite ?_ ?_)
      | (with_reducible refine LeO.bind ?_ (fun _ => ?_))
      | exact ih0 _ _ _ _ _
      | exact ih1 _ _ _ _ _ _ _ _
      | exact ih2 _ _ _ _ _ _ _ _
      | exact LeO.none _
      | refine LeO.ite ?_ ?_
      | refine LeO.bind ?_ (fun _ => ?_)
theorem ranges_Pack.mono : ∀ a0 k, LeO (ranges_Pack.f k a0) (ranges_Pack.f (k + 1) a0) := by
  intro a0 k
  obtain ⟨ih0, ih1, ih2⟩ := ranges_Pack.mono_l k
  unfold ranges_Pack.f
  repeat' first
      | (with_reducible exact ih0 _ _ _ _ _)
      | (with_reducible exact ih1 _ _ _ _ _ _ _ _)
      | (with_reducible exact ih2 _ _ _ _ _ _ _ _)
      | (with_reducible exact LeO.refl _)
      | (with_reducible exact LeO.none _)
      | (with_reducible refine LeO.ite ?_ ?_)
      | (with_reducible refine LeO.bind ?_ (fun _ => ?_))
      | exact ih0 _ _ _ _ _
      | exact ih1 _ _ _ _ _ _ _ _
      | exact ih2 _ _ _ _ _ _ _ _
      | exact LeO.none _
      | refine LeO.ite ?_ ?_
      | refine LeO.bind ?_ (fun _ => ?_)
set_option maxHeartbeats 8000000 in
set_option maxRecDepth 100000 in
theorem ranges_Pack.calls (k : Nat) (A0 : Option Addr) (c0 : Nat) (l0 : List (S41)) (r1 : List (S44)) (r2 : Int) (w : World) (hr0 : Kd.C k41 w A0 l0.length l0) (hc0 : l0.length ≤ c0) (h : ranges_Pack.f k l0 = some (r1, r2)) :
    Calls Try.prog 8 #[.slice A0 l0.length c0] w fun e w' => ∃ v0_ : Value, e = .returned (.tuple #[v0_, .int .i64 r2]) ∧ Kd.R k44 44 w' w.heap.size (fun _ => True) v0_ r1 ∧ Below w.heap.size w w' := by
  have hu41 := Try.underlying41
  have hu44 := Try.underlying44
  have HR0 := Aside0.mk hr0
  have HC0 := Aside0.mk hc0
  clear hr0 hc0
  have HB := Aside0.mk (Below.refl w.heap.size w)
  have H : (if (l0.length : Int) > 65536 then (some (([] : List (S44)), 8)) else (ranges_Pack.l0 k ([] : List (S44)) (-1) l0 (l0.length : Int) 0)) = some (r1, r2) := h
  clear h
  by_cases c2 : (l0.length : Int) > 65536
  · rw [if_pos c2] at H
    have c2b0 : decide (65536 < (l0.length : Int)) = true := decide_eq_true c2
    have c2b1 : decide (65536 < l0.length) = true := decide_eq_true (by omega)
    clear c2
    simp only [Option.some.injEq, Prod.mk.injEq] at H
    obtain ⟨rfl, rfl⟩ := H
    go_enter Try.func8, Try.ntmps8
    go_wp2
    repeat (go_quiet (fail); try go_wp2)
    go_ret2
    exact ⟨_, by first | rfl | (simp [errW_none, errW_some] <;> rfl) | (simp [*, errW_none, errW_some] <;> rfl), by first | exact Kd.R_nil _ _ _ _ _ | exact Kd.N_nil _ _ _ _ _ | exact Kd.V_nil _ _ _ _ _ | exact Kd.Q_nil _ _ _ _ _ | exact Kd.S_nil _ _ _ _ _, by repeat (first | (with_reducible first | exact HB.out | apply below_alloc | apply pw_below_drewN | apply below_drew1) | exact HB.out)⟩
  · rw [if_neg c2] at H
    have c2b0 : decide (65536 < (l0.length : Int)) = false := decide_eq_false c2
    have c2b1 : decide (65536 < l0.length) = false := decide_eq_false (by omega)
    clear c2
    have H' := Aside0.mk H
    clear H
    go_enter Try.func8, Try.ntmps8
    go_wp2
    repeat (go_quiet (fail); try go_wp2)
    go_loopg [4, 5, 14] k (fun kq v4 v5 v14 w' => ∃ (x4_1 : List (S44)) (x5_1 : Int) (x14_1 : Int), v5 = .int .i64 x5_1 ∧ v14 = .int .i64 x14_1 ∧ Aside0 (ranges_Pack.l0 kq x4_1 x5_1 l0 (l0.length : Int) x14_1 = some (r1, r2)) ∧ Aside0 (kq ≤ k) ∧ Aside0 (Kd.R k44 44 w' w.heap.size (fun _ => True) v4 x4_1) ∧ Aside0 (Below w.heap.size w w'))
    case atStart => exact ⟨(([] : List (S44))), ((-1)), (0), (by first | rfl | (simp; done) | (simp [*]; done)), (by first | rfl | (simp; done) | (simp [*]; done)), H', ⟨Nat.le_refl _⟩, ⟨by first | exact Kd.R_nil _ _ _ _ _ | exact Kd.N_nil _ _ _ _ _ | exact Kd.V_nil _ _ _ _ _ | exact Kd.Q_nil _ _ _ _ _ | exact Kd.S_nil _ _ _ _ _⟩, ⟨by repeat (first | (with_reducible first | exact HB.out | apply below_alloc | apply pw_below_drewN | apply below_drew1) | exact HB.out)⟩⟩
    case round =>
      clear H'
      try clear c2
      try clear c2b0
      try clear c2b1
      try clear p2
      obtain ⟨x4_1, x5_1, x14_1, rfl, rfl, HA, HK1, HO_4, HB⟩ := hrel
      cases gk with
      | zero => exact absurd HA.out (by simp [ranges_Pack.l0])
      | succ k1 =>
        have H := HA.out
        clear HA
        simp only [ranges_Pack.l0] at H
        by_cases c3 : x14_1 < (l0.length : Int)
        · rw [if_pos c3] at H
          have c3b0 : decide (x14_1 < (l0.length : Int)) = true := decide_eq_true c3
          clear c3
          by_cases c4 : 0 ≤ x14_1
          · rw [if_pos c4] at H
            have c4b0 : decide (0 ≤ x14_1) = true := decide_eq_true c4
            clear c4
            by_cases c5 : x14_1 < (l0.length : Int)
            · rw [if_pos c5] at H
              have c5b0 : decide (x14_1 < (l0.length : Int)) = true := decide_eq_true c5
              clear c5
              have HC6 := Aside0.mk H
              clear H
              have p117 : 0 ≤ (x14_1 : Int) := of_decide_eq_true (by first | (with_reducible assumption) | assumption)
              have q117 : x14_1 < (l0.length : Int) := of_decide_eq_true (by first | (with_reducible assumption) | assumption)
              obtain ⟨ad117, e117, hx117_0, hx117_1⟩ := at_T41 HR0.out x14_1 p117 q117
              cases e117
              replace hx117_0 := (HB.out.cell (World.block_lt_of_cell? w _ hx117_0)).trans hx117_0
              replace hx117_1 := (HB.out.cell (World.block_lt_of_cell? w _ hx117_1)).trans hx117_1
              replace p117 := eq_true p117
              replace q117 := eq_true q117
              go_upto_region 8 with (first | ((with_reducible refine gate_dst (N := 7) rfl ?_); refine box_event ?hg (N := 7) ?hd (cs := #[.int .i64 0, .int .i32 0]) (t := 41) ?hr ?_; (case hd => rfl); (case hg => rfl); (case hr => first | (go_simp; done) | (go_simp; rfl)); intro gb118 hg w7 hbox hb; have n0_ := Aside0.mk (Kd.R_below (by (with_reducible repeat (first | apply Kd.R_alloc | apply Kd.R_drewN | apply Kd.R_drew)); exact HO_4.out) hb); have n1_ := Aside0.mk (below_step (by repeat (first | (with_reducible first | exact HB.out | apply below_alloc | apply pw_below_drewN | apply below_drew1) | exact HB.out)) hb); have n2_ := Aside0.mk (hbox); have n3_ := Aside0.mk ((by rw [hg]; exact (below_size (by repeat (first | (with_reducible first | exact HB.out | apply below_alloc | apply pw_below_drewN | apply below_drew1) | exact HB.out))) : w.heap.size ≤ gb118)); have n4_ := Aside0.mk ((by rw [hg]; exact (below_size (by repeat (first | (with_reducible first | exact HB.out | apply below_alloc | apply pw_below_drewN | apply below_drew1) | exact HB.out))) : w.heap.size ≤ gb118)); clear HO_4; clear HB; have HO_4 := n0_; have HB := n1_; have BK118 := n2_; have GW118 := n3_; have GE118 := n4_; clear n0_ n1_ n2_ n3_ n4_; clear hb hbox hg; have hcz8_0 : w7.cell? ⟨gb118, 0, none⟩ = some (.int .i64 0) := (blk_cell BK118.out 0).trans rfl; have hcz8_1 : w7.cell? ⟨gb118, 1, none⟩ = some (.int .i32 0) := (blk_cell BK118.out 1).trans rfl; have hfz8_0 := blk_frozen BK118.out 0; have hfz8_1 := blk_frozen BK118.out 1))
              repeat (go_quiet (first | ((with_reducible refine gate_dst (N := 7) rfl ?_); refine box_event ?hg (N := 7) ?hd (cs := #[.int .i64 0, .int .i32 0]) (t := 41) ?hr ?_; (case hd => rfl); (case hg => rfl); (case hr => first | (go_simp; done) | (go_simp; rfl)); intro gb118 hg w7 hbox hb; have n0_ := Aside0.mk (Kd.R_below (by (with_reducible repeat (first | apply Kd.R_alloc | apply Kd.R_drewN | apply Kd.R_drew)); exact HO_4.out) hb); have n1_ := Aside0.mk (below_step (by repeat (first | (with_reducible first | exact HB.out | apply below_alloc | apply pw_below_drewN | apply below_drew1) | exact HB.out)) hb); have n2_ := Aside0.mk (hbox); have n3_ := Aside0.mk ((by rw [hg]; exact (below_size (by repeat (first | (with_reducible first | exact HB.out | apply below_alloc | apply pw_below_drewN | apply below_drew1) | exact HB.out))) : w.heap.size ≤ gb118)); have n4_ := Aside0.mk ((by rw [hg]; exact (below_size (by repeat (first | (with_reducible first | exact HB.out | apply below_alloc | apply pw_below_drewN | apply below_drew1) | exact HB.out))) : w.heap.size ≤ gb118)); clear HO_4; clear HB; have HO_4 := n0_; have HB := n1_; have BK118 := n2_; have GW118 := n3_; have GE118 := n4_; clear n0_ n1_ n2_ n3_ n4_; clear hb hbox hg; have hcz8_0 : w7.cell? ⟨gb118, 0, none⟩ = some (.int .i64 0) := (blk_cell BK118.out 0).trans rfl; have hcz8_1 : w7.cell? ⟨gb118, 1, none⟩ = some (.int .i32 0) := (blk_cell BK118.out 1).trans rfl; have hfz8_0 := blk_frozen BK118.out 0; have hfz8_1 := blk_frozen BK118.out 1)); go_upto_region 8 with (first | ((with_reducible refine gate_dst (N := 7) rfl ?_); refine box_event ?hg (N := 7) ?hd (cs := #[.int .i64 0, .int .i32 0]) (t := 41) ?hr ?_; (case hd => rfl); (case hg => rfl); (case hr => first | (go_simp; done) | (go_simp; rfl)); intro gb118 hg w7 hbox hb; have n0_ := Aside0.mk (Kd.R_below (by (with_reducible repeat (first | apply Kd.R_alloc | apply Kd.R_drewN | apply Kd.R_drew)); exact HO_4.out) hb); have n1_ := Aside0.mk (below_step (by repeat (first | (with_reducible first | exact HB.out | apply below_alloc | apply pw_below_drewN | apply below_drew1) | exact HB.out)) hb); have n2_ := Aside0.mk (hbox); have n3_ := Aside0.mk ((by rw [hg]; exact (below_size (by repeat (first | (with_reducible first | exact HB.out | apply below_alloc | apply pw_below_drewN | apply below_drew1) | exact HB.out))) : w.heap.size ≤ gb118)); have n4_ := Aside0.mk ((by rw [hg]; exact (below_size (by repeat (first | (with_reducible first | exact HB.out | apply below_alloc | apply pw_below_drewN | apply below_drew1) | exact HB.out))) : w.heap.size ≤ gb118)); clear HO_4; clear HB; have HO_4 := n0_; have HB := n1_; have BK118 := n2_; have GW118 := n3_; have GE118 := n4_; clear n0_ n1_ n2_ n3_ n4_; clear hb hbox hg; have hcz8_0 : w7.cell? ⟨gb118, 0, none⟩ = some (.int .i64 0) := (blk_cell BK118.out 0).trans rfl; have hcz8_1 : w7.cell? ⟨gb118, 1, none⟩ = some (.int .i32 0) := (blk_cell BK118.out 1).trans rfl; have hfz8_0 := blk_frozen BK118.out 0; have hfz8_1 := blk_frozen BK118.out 1)))
              (try simp only [Act.put, List.setIfInBounds_toArray, List.set_cons_zero, List.set_cons_succ])
              go_cut [32] (fun v32 wc => ∃ (kq : Nat) (x32_5 : Bool), v32 = .bool x32_5 ∧ Aside0 (ranges_Pack.j1 kq x4_1 x5_1 l0 (l0.length : Int) x14_1 x32_5 ((rd_T41 l0 x14_1).f0) ((rd_T41 l0 x14_1).f1) = some (r1, r2)) ∧ Aside0 (kq ≤ k1) ∧ Aside0 (Kd.R k44 44 wc w.heap.size (fun _ => True) u4 x4_1) ∧ Aside0 (wc.heap[gb118]? = some (.cells #[.int .i64 ((rd_T41 l0 x14_1).f0), .int .i32 ((rd_T41 l0 x14_1).f1)] 41 (0, 0))) ∧ Aside0 (Below w.heap.size w wc))
              case first =>
                have H := HC6.out
                clear HC6
                by_cases c9 : ((rd_T41 l0 x14_1).f0) ≤ x5_1
                · rw [if_pos c9] at H
                  have c9b0 : decide (((rd_T41 l0 x14_1).f0) ≤ x5_1) = true := decide_eq_true c9
                  clear c9
                  (first | rw [c9b0] | (simp only [i64_w, i32_w]; rw [c9b0]) | skip)
                  have H' := Aside0.mk H
                  clear H
                  have hcz10_0 : w7.cell? ⟨gb118, 0, none⟩ = some (.int .i64 0) := (blk_cell BK118.out 0).trans rfl
                  have hcz10_1 : w7.cell? ⟨gb118, 1, none⟩ = some (.int .i32 0) := (blk_cell BK118.out 1).trans rfl
                  have hfz10_0 := blk_frozen BK118.out 0
                  have hfz10_1 := blk_frozen BK118.out 1
                  go_wp2
                  repeat (go_quiet (fail); try go_wp2)
                  go_meet
                  case rel => exact ⟨_, (true), (by first | rfl | (simp; done) | (simp [*]; done)), H', ⟨by have := HK1.out; first | omega | exact Nat.le_refl _⟩, ⟨by (with_reducible repeat (first | apply Kd.R_alloc | apply Kd.R_drewN | apply Kd.R_drew)); exact Kd.R_mono (Kd.R_far (p := ⟨gb118, 1, none⟩) (Kd.R_far (p := ⟨gb118, 0, none⟩) (Kd.R_types HO_4.out BK118.out (by decide)) (fun _ hk => hk.2) (.int .i64 ((rd_T41 l0 x14_1).f0))) (fun _ hk => hk.2) (.int .i32 ((rd_T41 l0 x14_1).f1))) (fun _ hk => trivial)⟩, ⟨by (with_reducible repeat (first | refine blk_drewN ?_ _ | refine blk_drew ?_ | refine blk_alloc ?_ _)); refine blk_put (cs := #[.int .i64 ((rd_T41 l0 x14_1).f0), .int .i32 0]) ?_ 1 _ rfl; (with_reducible repeat (first | refine blk_drewN ?_ _ | refine blk_drew ?_ | refine blk_alloc ?_ _)); refine blk_put (cs := #[.int .i64 0, .int .i32 0]) ?_ 0 _ rfl; (with_reducible repeat (first | refine blk_drewN ?_ _ | refine blk_drew ?_ | refine blk_alloc ?_ _)); exact BK118.out⟩, ⟨by repeat (first | (with_reducible first | exact HB.out | apply below_alloc | apply pw_below_drewN | apply below_drew1 | refine below_set ?_ GE118.out) | exact HB.out)⟩⟩
                · rw [if_neg c9] at H
                  have c9b0 : decide (((rd_T41 l0 x14_1).f0) ≤ x5_1) = false := decide_eq_false c9
                  clear c9
                  (first | rw [c9b0] | (simp only [i64_w, i32_w]; rw [c9b0]) | skip)
                  by_cases c11 : ((rd_T41 l0 x14_1).f0) > 16777215
                  · rw [if_pos c11] at H
                    have c11b0 : decide (16777215 < ((rd_T41 l0 x14_1).f0)) = true := decide_eq_true c11
                    clear c11
                    have H' := Aside0.mk H
                    clear H
                    have hcz12_0 : w7.cell? ⟨gb118, 0, none⟩ = some (.int .i64 0) := (blk_cell BK118.out 0).trans rfl
                    have hcz12_1 : w7.cell? ⟨gb118, 1, none⟩ = some (.int .i32 0) := (blk_cell BK118.out 1).trans rfl
                    have hfz12_0 := blk_frozen BK118.out 0
                    have hfz12_1 := blk_frozen BK118.out 1
                    go_wp2
                    repeat (go_quiet (fail); try go_wp2)
                    go_meet
                    case rel => exact ⟨_, (true), (by first | rfl | (simp; done) | (simp [*]; done)), H', ⟨by have := HK1.out; first | omega | exact Nat.le_refl _⟩, ⟨by (with_reducible repeat (first | apply Kd.R_alloc | apply Kd.R_drewN | apply Kd.R_drew)); exact Kd.R_mono (Kd.R_far (p := ⟨gb118, 1, none⟩) (Kd.R_far (p := ⟨gb118, 0, none⟩) (Kd.R_types HO_4.out BK118.out (by decide)) (fun _ hk => hk.2) (.int .i64 ((rd_T41 l0 x14_1).f0))) (fun _ hk => hk.2) (.int .i32 ((rd_T41 l0 x14_1).f1))) (fun _ hk => trivial)⟩, ⟨by (with_reducible repeat (first | refine blk_drewN ?_ _ | refine blk_drew ?_ | refine blk_alloc ?_ _)); refine blk_put (cs := #[.int .i64 ((rd_T41 l0 x14_1).f0), .int .i32 0]) ?_ 1 _ rfl; (with_reducible repeat (first | refine blk_drewN ?_ _ | refine blk_drew ?_ | refine blk_alloc ?_ _)); refine blk_put (cs := #[.int .i64 0, .int .i32 0]) ?_ 0 _ rfl; (with_reducible repeat (first | refine blk_drewN ?_ _ | refine blk_drew ?_ | refine blk_alloc ?_ _)); exact BK118.out⟩, ⟨by repeat (first | (with_reducible first | exact HB.out | apply below_alloc | apply pw_below_drewN | apply below_drew1 | refine below_set ?_ GE118.out) | exact HB.out)⟩⟩
                  · rw [if_neg c11] at H
                    have c11b0 : decide (16777215 < ((rd_T41 l0 x14_1).f0)) = false := decide_eq_false c11
                    clear c11
                    replace H := Option.bind_eq_some_iff.mp H
                    obtain ⟨t119, A130, H⟩ := H
                    replace H : (ranges_Pack.j1 k1 x4_1 x5_1 l0 (l0.length : Int) x14_1 (!t119) ((rd_T41 l0 x14_1).f0) ((rd_T41 l0 x14_1).f1)) = some (r1, r2) := H
                    have A13 := Aside0.mk A130
                    clear A130
                    have H' := Aside0.mk H
                    clear H
                    have hcz14_0 : w7.cell? ⟨gb118, 0, none⟩ = some (.int .i64 0) := (blk_cell BK118.out 0).trans rfl
                    have hcz14_1 : w7.cell? ⟨gb118, 1, none⟩ = some (.int .i32 0) := (blk_cell BK118.out 1).trans rfl
                    have hfz14_0 := blk_frozen BK118.out 0
                    have hfz14_1 := blk_frozen BK118.out 1
                    go_wp2_with (first | (go_at_call 21; (with_reducible refine (ucs_Scalar.calls ((rd_T41 l0 x14_1).f1) t119 _ A13.out).mono ?_); rintro e w' ⟨rfl, ⟨nd, rfl⟩⟩; (try first | exact ⟨rfl, _, World.drewN_drewN _ _ _⟩ | exact ⟨rfl, _, Eq.trans (World.drewN_drewN _ _ _) (congrArg (World.drewN _) (Nat.add_assoc _ _ _))⟩)))
                    repeat (go_quiet (first | (go_at_call 21; (with_reducible refine (ucs_Scalar.calls ((rd_T41 l0 x14_1).f1) t119 _ A13.out).mono ?_); rintro e w' ⟨rfl, ⟨nd, rfl⟩⟩; (try first | exact ⟨rfl, _, World.drewN_drewN _ _ _⟩ | exact ⟨rfl, _, Eq.trans (World.drewN_drewN _ _ _) (congrArg (World.drewN _) (Nat.add_assoc _ _ _))⟩))); try go_wp2_with (first | (go_at_call 21; (with_reducible refine (ucs_Scalar.calls ((rd_T41 l0 x14_1).f1) t119 _ A13.out).mono ?_); rintro e w' ⟨rfl, ⟨nd, rfl⟩⟩; (try first | exact ⟨rfl, _, World.drewN_drewN _ _ _⟩ | exact ⟨rfl, _, Eq.trans (World.drewN_drewN _ _ _) (congrArg (World.drewN _) (Nat.add_assoc _ _ _))⟩))))
                    go_meet
                    case rel => exact ⟨_, (!t119), (by first | rfl | (simp; done) | (simp [*]; done)), H', ⟨by have := HK1.out; first | omega | exact Nat.le_refl _⟩, ⟨by (with_reducible repeat (first | apply Kd.R_alloc | apply Kd.R_drewN | apply Kd.R_drew)); exact Kd.R_mono (Kd.R_far (p := ⟨gb118, 1, none⟩) (Kd.R_far (p := ⟨gb118, 0, none⟩) (Kd.R_types HO_4.out BK118.out (by decide)) (fun _ hk => hk.2) (.int .i64 ((rd_T41 l0 x14_1).f0))) (fun _ hk => hk.2) (.int .i32 ((rd_T41 l0 x14_1).f1))) (fun _ hk => trivial)⟩, ⟨by (with_reducible repeat (first | refine blk_drewN ?_ _ | refine blk_drew ?_ | refine blk_alloc ?_ _)); refine blk_put (cs := #[.int .i64 ((rd_T41 l0 x14_1).f0), .int .i32 0]) ?_ 1 _ rfl; (with_reducible repeat (first | refine blk_drewN ?_ _ | refine blk_drew ?_ | refine blk_alloc ?_ _)); refine blk_put (cs := #[.int .i64 0, .int .i32 0]) ?_ 0 _ rfl; (with_reducible repeat (first | refine blk_drewN ?_ _ | refine blk_drew ?_ | refine blk_alloc ?_ _)); exact BK118.out⟩, ⟨by repeat (first | (with_reducible first | exact HB.out | apply below_alloc | apply pw_below_drewN | apply below_drew1 | refine below_set ?_ GE118.out) | exact HB.out)⟩⟩
              case rest =>
                clear HC6
                try clear c1
                try clear p1
                try clear q1
                try clear hx1
                try clear c2
                try clear c2b0
                try clear c2b1
                try clear p2
                try clear c3
                try clear c3b0
                try clear c4
                try clear c4b0
                try clear c5
                try clear c5b0
                try clear c8
                try clear c9
                try clear c9b0
                try clear c11
                try clear c11b0
                try clear p11
                try clear q11
                try clear hx11
                try clear hcz10_0
                try clear hcz10_1
                try clear hcz12_0
                try clear hcz12_1
                try clear hcz14_0
                try clear hcz14_1
                try clear hcz8_0
                try clear hcz8_1
                try clear hfz10_0
                try clear hfz10_1
                try clear hfz12_0
                try clear hfz12_1
                try clear hfz14_0
                try clear hfz14_1
                try clear hfz8_0
                try clear hfz8_1
                try clear hx117_0
                try clear hx117_1
                try clear p117
                try clear p2
                try clear q117
                obtain ⟨kq, x32_5, rfl, HA, HJ5, HO_4, BK118, HB⟩ := hcut
                cases kq with
                | zero => exact absurd HA.out (by simp [ranges_Pack.j1])
                | succ kj5 =>
                  have H := HA.out
                  clear HA
                  simp only [ranges_Pack.j1] at H
                  by_cases c15 : x32_5 = true
                  · subst c15
                    have H1 : (some (([] : List (S44)), 3)) = some (r1, r2) := by rw [if_pos rfl] at H; exact H
                    clear H
                    have H := H1
                    clear H1
                    simp only [Option.some.injEq, Prod.mk.injEq] at H
                    obtain ⟨rfl, rfl⟩ := H
                    go_wp2
                    repeat (go_quiet (fail); try go_wp2)
                    go_ret2
                    exact ⟨_, by first | rfl | (simp [errW_none, errW_some] <;> rfl) | (simp [*, errW_none, errW_some] <;> rfl), by first | exact Kd.R_nil _ _ _ _ _ | exact Kd.N_nil _ _ _ _ _ | exact Kd.V_nil _ _ _ _ _ | exact Kd.Q_nil _ _ _ _ _ | exact Kd.S_nil _ _ _ _ _, by repeat (first | (with_reducible first | exact HB.out | apply below_alloc | apply pw_below_drewN | apply below_drew1 | refine below_set ?_ GE118.out) | exact HB.out)⟩
                  · replace c15 := Bool.eq_false_iff.mpr c15
                    subst c15
                    have H1 : (if (x4_1.length : Int) > 0 then (if ((rd_T41 l0 x14_1).f0) = (wrap64 (x5_1 + 1)) then (if 0 ≤ (wrap64 ((x4_1.length : Int) - 1)) then (if (wrap64 ((x4_1.length : Int) - 1)) < (x4_1.length : Int) then (ranges_Pack.j2 kj5 x4_1 (x4_1.length : Int) l0 (l0.length : Int) x14_1 ((wrap64 ((wrap64 (((rd_T41 l0 x14_1).f1))) - (wrap64 ((rd_T44 x4_1 (wrap64 ((x4_1.length : Int) - 1))).f2)))) == (wrap64 (((rd_T41 l0 x14_1).f0) - ((rd_T44 x4_1 (wrap64 ((x4_1.length : Int) - 1))).f0)))) ((rd_T41 l0 x14_1).f0) ((rd_T41 l0 x14_1).f1)) else (none)) else (none)) else (ranges_Pack.j2 kj5 x4_1 (x4_1.length : Int) l0 (l0.length : Int) x14_1 false ((rd_T41 l0 x14_1).f0) ((rd_T41 l0 x14_1).f1))) else (ranges_Pack.j2 kj5 x4_1 (x4_1.length : Int) l0 (l0.length : Int) x14_1 false ((rd_T41 l0 x14_1).f0) ((rd_T41 l0 x14_1).f1))) = some (r1, r2) := by rw [if_neg (show ¬ (false = true) by decide)] at H; exact H
                    clear H
                    have H := H1
                    clear H1
                    have HC16 := Aside0.mk H
                    clear H
                    obtain ⟨Ao17, co17, eo17⟩ := Kd.R_slice HO_4.out
                    subst eo17
                    go_upto_region 11 with (fail)
                    repeat (go_quiet (fail); go_upto_region 11 with (fail))
                    go_cut [66] (fun v66 wc => ∃ (kq : Nat) (x66_15 : Bool), v66 = .bool x66_15 ∧ Aside0 (ranges_Pack.j2 kq x4_1 (x4_1.length : Int) l0 (l0.length : Int) x14_1 x66_15 ((rd_T41 l0 x14_1).f0) ((rd_T41 l0 x14_1).f1) = some (r1, r2)) ∧ Aside0 (kq ≤ kj5) ∧ Aside0 (Kd.R k44 44 wc w.heap.size (fun _ => True) (.slice Ao17 x4_1.length co17) x4_1) ∧ Aside0 (wc.heap[gb118]? = some (.cells #[.int .i64 ((rd_T41 l0 x14_1).f0), .int .i32 ((rd_T41 l0 x14_1).f1)] 41 (0, 0))) ∧ Aside0 (Below w.heap.size w wc))
                    case first =>
                      have H := HC16.out
                      clear HC16
                      by_cases c18 : (x4_1.length : Int) > 0
                      · rw [if_pos c18] at H
                        have c18b0 : decide (0 < (x4_1.length : Int)) = true := decide_eq_true c18
                        have c18b1 : decide (0 < x4_1.length) = true := decide_eq_true (by omega)
                        clear c18
                        (first | rw [c18b0] | (simp only [i64_w, i32_w]; rw [c18b0]) | skip)
                        by_cases c19 : ((rd_T41 l0 x14_1).f0) = (wrap64 (x5_1 + 1))
                        · rw [if_pos c19] at H
                          have c19b0 : (((rd_T41 l0 x14_1).f0) == (wrap64 (x5_1 + 1))) = true := beq_iff_eq.mpr c19
                          have c19b1 : (((rd_T41 l0 x14_1).f0) != (wrap64 (x5_1 + 1))) = false := bne_eq_false_iff_eq.mpr c19
                          clear c19
                          obtain ⟨ji20, hji20⟩ : ∃ j_ : Int, (wrap64 ((x4_1.length : Int) - 1)) = j_ := ⟨_, rfl⟩
                          replace H : (if 0 ≤ (ji20) then (if (ji20) < (x4_1.length : Int) then (ranges_Pack.j2 kj5 x4_1 (x4_1.length : Int) l0 (l0.length : Int) x14_1 ((wrap64 ((wrap64 (((rd_T41 l0 x14_1).f1))) - (wrap64 ((rd_T44 x4_1 (ji20)).f2)))) == (wrap64 (((rd_T41 l0 x14_1).f0) - ((rd_T44 x4_1 (ji20)).f0)))) ((rd_T41 l0 x14_1).f0) ((rd_T41 l0 x14_1).f1)) else (none)) else (none)) = some (r1, r2) := by first | (rw [hji20] at H; exact H) | (simp only [hji20] at H ⊢; exact H)
                          have hji20w : (IntKind.i64.wrap ((x4_1.length : Int) - 1)) = ji20 := (i64_w _).trans hji20
                          by_cases c21 : 0 ≤ (ji20)
                          · rw [if_pos c21] at H
                            have c21b0 : decide (0 ≤ (ji20)) = true := decide_eq_true c21
                            clear c21
                            by_cases c22 : (ji20) < (x4_1.length : Int)
                            · rw [if_pos c22] at H
                              have c22b0 : decide ((ji20) < (x4_1.length : Int)) = true := decide_eq_true c22
                              clear c22
                              have H' := Aside0.mk H
                              clear H
                              have hcz23_0 : wc.cell? ⟨gb118, 0, none⟩ = some (.int .i64 ((rd_T41 l0 x14_1).f0)) := (blk_cell BK118.out 0).trans rfl
                              have hcz23_1 : wc.cell? ⟨gb118, 1, none⟩ = some (.int .i32 ((rd_T41 l0 x14_1).f1)) := (blk_cell BK118.out 1).trans rfl
                              have hfz23_0 := blk_frozen BK118.out 0
                              have hfz23_1 := blk_frozen BK118.out 1
                              have p120 : 0 ≤ ((ji20) : Int) := of_decide_eq_true (by first | (with_reducible assumption) | assumption)
                              have q120 : (ji20) < (x4_1.length : Int) := of_decide_eq_true (by first | (with_reducible assumption) | assumption)
                              obtain ⟨ad120, e120, hx120_0, hx120_1, hx120_2⟩ := at_T44 (Kd.R_reads' HO_4.out).2.2 (ji20) p120 q120
                              cases e120
                              replace p120 := eq_true p120
                              replace q120 := eq_true q120
                              have p121 : 0 ≤ ((ji20) : Int) := of_decide_eq_true (by first | (with_reducible assumption) | assumption)
                              have q121 : (ji20) < (x4_1.length : Int) := of_decide_eq_true (by first | (with_reducible assumption) | assumption)
                              obtain ⟨ad121, e121, hx121_0, hx121_1, hx121_2⟩ := at_T44 (Kd.R_reads' HO_4.out).2.2 (ji20) p121 q121
                              obtain rfl : ad120 = ad121 := (by injection e121)
                              replace p121 := eq_true p121
                              replace q121 := eq_true q121
                              go_wp2
                              repeat (go_quiet (fail); try go_wp2)
                              go_meet
                              case rel => exact ⟨_, (((wrap64 ((wrap64 (((rd_T41 l0 x14_1).f1))) - (wrap64 ((rd_T44 x4_1 (ji20)).f2)))) == (wrap64 (((rd_T41 l0 x14_1).f0) - ((rd_T44 x4_1 (ji20)).f0))))), (by first | rfl | (simp; done) | (simp only [← hji20] <;> (first | rfl | simp)) | (simp [*]; done)), H', ⟨by have := HK1.out; have := HJ5.out; first | omega | exact Nat.le_refl _⟩, ⟨by (with_reducible repeat (first | apply Kd.R_alloc | apply Kd.R_drewN | apply Kd.R_drew)); exact HO_4.out⟩, ⟨by (with_reducible repeat (first | refine blk_drewN ?_ _ | refine blk_drew ?_ | refine blk_alloc ?_ _)); exact BK118.out⟩, ⟨by repeat (first | (with_reducible first | exact HB.out | apply below_alloc | apply pw_below_drewN | apply below_drew1 | refine below_set ?_ GE118.out) | exact HB.out)⟩⟩
                            · rw [if_neg c22] at H
                              exact absurd H (by simp)
                          · rw [if_neg c21] at H
                            exact absurd H (by simp)
                        · rw [if_neg c19] at H
                          have c19b0 : (((rd_T41 l0 x14_1).f0) == (wrap64 (x5_1 + 1))) = false := beq_eq_false_iff_ne.mpr c19
                          have c19b1 : (((rd_T41 l0 x14_1).f0) != (wrap64 (x5_1 + 1))) = true := bne_iff_ne.mpr c19
                          have H' := Aside0.mk H
                          clear H
                          have hcz24_0 : wc.cell? ⟨gb118, 0, none⟩ = some (.int .i64 ((rd_T41 l0 x14_1).f0)) := (blk_cell BK118.out 0).trans rfl
                          have hcz24_1 : wc.cell? ⟨gb118, 1, none⟩ = some (.int .i32 ((rd_T41 l0 x14_1).f1)) := (blk_cell BK118.out 1).trans rfl
                          have hfz24_0 := blk_frozen BK118.out 0
                          have hfz24_1 := blk_frozen BK118.out 1
                          go_wp2
                          repeat (go_quiet (fail); try go_wp2)
                          go_meet
                          case rel => exact ⟨_, (false), (by first | rfl | (simp; done) | (simp [*]; done)), H', ⟨by have := HK1.out; have := HJ5.out; first | omega | exact Nat.le_refl _⟩, ⟨by (with_reducible repeat (first | apply Kd.R_alloc | apply Kd.R_drewN | apply Kd.R_drew)); exact HO_4.out⟩, ⟨by (with_reducible repeat (first | refine blk_drewN ?_ _ | refine blk_drew ?_ | refine blk_alloc ?_ _)); exact BK118.out⟩, ⟨by repeat (first | (with_reducible first | exact HB.out | apply below_alloc | apply pw_below_drewN | apply below_drew1 | refine below_set ?_ GE118.out) | exact HB.out)⟩⟩
                      · rw [if_neg c18] at H
                        have c18b0 : decide (0 < (x4_1.length : Int)) = false := decide_eq_false c18
                        have c18b1 : decide (0 < x4_1.length) = false := decide_eq_false (by omega)
                        clear c18
                        (first | rw [c18b0] | (simp only [i64_w, i32_w]; rw [c18b0]) | skip)
                        have H' := Aside0.mk H
                        clear H
                        go_wp2
                        repeat (go_quiet (fail); try go_wp2)
                        go_meet
                        case rel => exact ⟨_, (false), (by first | rfl | (simp; done) | (simp [*]; done)), H', ⟨by have := HK1.out; have := HJ5.out; first | omega | exact Nat.le_refl _⟩, ⟨by (with_reducible repeat (first | apply Kd.R_alloc | apply Kd.R_drewN | apply Kd.R_drew)); exact HO_4.out⟩, ⟨by (with_reducible repeat (first | refine blk_drewN ?_ _ | refine blk_drew ?_ | refine blk_alloc ?_ _)); exact BK118.out⟩, ⟨by repeat (first | (with_reducible first | exact HB.out | apply below_alloc | apply pw_below_drewN | apply below_drew1 | refine below_set ?_ GE118.out) | exact HB.out)⟩⟩
                    case rest =>
                      clear HC16
                      try clear c1
                      try clear p1
                      try clear q1
                      try clear hx1
                      try clear c2
                      try clear c2b0
                      try clear c2b1
                      try clear p2
                      try clear c3
                      try clear c3b0
                      try clear c4
                      try clear c4b0
                      try clear c5
                      try clear c5b0
                      try clear p6
                      try clear c8
                      try clear c9
                      try clear c9b0
                      try clear c11
                      try clear c11b0
                      try clear p11
                      try clear q11
                      try clear hx11
                      try clear p12
                      try clear q12
                      try clear hx12
                      try clear c15
                      try clear c18
                      try clear c18b0
                      try clear c18b1
                      try clear c19
                      try clear c19b0
                      try clear c19b1
                      try clear c21
                      try clear c21b0
                      try clear c22
                      try clear c22b0
                      try clear hcz10_0
                      try clear hcz10_1
                      try clear hcz12_0
                      try clear hcz12_1
                      try clear hcz14_0
                      try clear hcz14_1
                      try clear hcz23_0
                      try clear hcz23_1
                      try clear hcz24_0
                      try clear hcz24_1
                      try clear hcz8_0
                      try clear hcz8_1
                      try clear hfz10_0
                      try clear hfz10_1
                      try clear hfz12_0
                      try clear hfz12_1
                      try clear hfz14_0
                      try clear hfz14_1
                      try clear hfz23_0
                      try clear hfz23_1
                      try clear hfz24_0
                      try clear hfz24_1
                      try clear hfz8_0
                      try clear hfz8_1
                      try clear hx117_0
                      try clear hx117_1
                      try clear hx120_0
                      try clear hx120_1
                      try clear hx120_2
                      try clear hx121_0
                      try clear hx121_1
                      try clear hx121_2
                      try clear p1
                      try clear p11
                      try clear p117
                      try clear p120
                      try clear p121
                      try clear p2
                      try clear q1
                      try clear q11
                      try clear q117
                      try clear q120
                      try clear q121
                      obtain ⟨kq, x66_15, rfl, HA, HJ15, HO_4, BK118, HB⟩ := hcut
                      cases kq with
                      | zero => exact absurd HA.out (by simp [ranges_Pack.j2])
                      | succ kj15 =>
                        have H := HA.out
                        clear HA
                        simp only [ranges_Pack.j2] at H
                        by_cases c25 : x66_15 = true
                        · subst c25
                          have H1 : (if 0 ≤ (wrap64 ((x4_1.length : Int) - 1)) then (if (wrap64 ((x4_1.length : Int) - 1)) < (x4_1.length : Int) then (ranges_Pack.l0 kj15 (x4_1.set ((wrap64 ((x4_1.length : Int) - 1)) : Int).toNat (⟨(rd_T44 x4_1 (wrap64 ((x4_1.length : Int) - 1))).f0, ((rd_T41 l0 x14_1).f0), (rd_T44 x4_1 (wrap64 ((x4_1.length : Int) - 1))).f2⟩ : S44)) ((rd_T41 l0 x14_1).f0) l0 (l0.length : Int) (wrap64 (x14_1 + 1))) else (none)) else (none)) = some (r1, r2) := by rw [if_pos rfl] at H; exact H
                          clear H
                          have H := H1
                          clear H1
                          obtain ⟨ji26, hji26⟩ : ∃ j_ : Int, (wrap64 ((x4_1.length : Int) - 1)) = j_ := ⟨_, rfl⟩
                          replace H : (if 0 ≤ (ji26) then (if (ji26) < (x4_1.length : Int) then (ranges_Pack.l0 kj15 (x4_1.set ((ji26) : Int).toNat (⟨(rd_T44 x4_1 (ji26)).f0, ((rd_T41 l0 x14_1).f0), (rd_T44 x4_1 (ji26)).f2⟩ : S44)) ((rd_T41 l0 x14_1).f0) l0 (l0.length : Int) (wrap64 (x14_1 + 1))) else (none)) else (none)) = some (r1, r2) := by first | (rw [hji26] at H; exact H) | (simp only [hji26] at H ⊢; exact H)
                          have hji26w : (IntKind.i64.wrap ((x4_1.length : Int) - 1)) = ji26 := (i64_w _).trans hji26
                          by_cases c27 : 0 ≤ (ji26)
                          · rw [if_pos c27] at H
                            have c27b0 : decide (0 ≤ (ji26)) = true := decide_eq_true c27
                            clear c27
                            by_cases c28 : (ji26) < (x4_1.length : Int)
                            · rw [if_pos c28] at H
                              have c28b0 : decide ((ji26) < (x4_1.length : Int)) = true := decide_eq_true c28
                              clear c28
                              obtain ⟨y122, hy122⟩ : ∃ y_ : List (S44), y_ = (x4_1.set ((ji26) : Int).toNat (⟨(rd_T44 x4_1 (ji26)).f0, ((rd_T41 l0 x14_1).f0), (rd_T44 x4_1 (ji26)).f2⟩ : S44)) := ⟨_, rfl⟩
                              replace H : (ranges_Pack.l0 kj15 y122 ((rd_T41 l0 x14_1).f0) l0 (l0.length : Int) (wrap64 (x14_1 + 1))) = some (r1, r2) := by first | (rw [hy122]; with_reducible exact H) | (have H2_ := (Option.bind_some _ _).symm.trans H; rw [hy122]; with_reducible exact H2_) | (have H2_ := (Option.bind_some _ _).symm.trans H; with_reducible exact H2_) | with_reducible exact H | (rw [hy122]; exact H) | exact H
                              have Ny122 := Aside0.mk hy122
                              clear hy122
                              have H' := Aside0.mk H
                              clear H
                              have hcz30_0 : wc.cell? ⟨gb118, 0, none⟩ = some (.int .i64 ((rd_T41 l0 x14_1).f0)) := (blk_cell BK118.out 0).trans rfl
                              have hcz30_1 : wc.cell? ⟨gb118, 1, none⟩ = some (.int .i32 ((rd_T41 l0 x14_1).f1)) := (blk_cell BK118.out 1).trans rfl
                              have hfz30_0 := blk_frozen BK118.out 0
                              have hfz30_1 := blk_frozen BK118.out 1
                              have p29 : 0 ≤ ((ji26) : Int) := of_decide_eq_true (by first | (with_reducible assumption) | assumption)
                              have q29 : ((ji26) : Int) < ((x4_1.length : Int) : Int) := of_decide_eq_true (by first | (with_reducible assumption) | assumption)
                              obtain ⟨go29, co29, eo29, gb29, gl29, cl29, HG29⟩ := Kd.R_form HO_4.out (by omega)
                              (first | cases eo29 | (injection eo29 with ea_ en_ ec_; (first | subst ea_ | (injection ea_ with ea_; subst ea_)); subst ec_; clear en_))
                              have GB29 := Aside0.mk gb29
                              have GG29 := Aside0.mk HG29
                              clear gb29 gl29 HG29
                              obtain ⟨ce29, hcl29, hM29, hcc29, hfr29⟩ := Kd.R_elem HO_4.out z44 ((ji26) : Int) p29 q29
                              obtain rfl := k44_openM hM29
                              have hx29_0 : wc.cell? ⟨go29, ((ji26) : Int).toNat * 3, none⟩ = some (.int .i64 ((rd_T44 x4_1 (ji26)).f0)) := hcc29 0 _ rfl
                              have hx29_1 : wc.cell? ⟨go29, ((ji26) : Int).toNat * 3 + 1, none⟩ = some (.int .i64 ((rd_T44 x4_1 (ji26)).f1)) := hcc29 1 _ rfl
                              have hx29_2 : wc.cell? ⟨go29, ((ji26) : Int).toNat * 3 + 2, none⟩ = some (.int .i32 ((rd_T44 x4_1 (ji26)).f2)) := hcc29 2 _ rfl
                              have hf29_0 : wc.frozen? ⟨go29, ((ji26) : Int).toNat * 3, none⟩ = false := hfr29 0
                              have hf29_1 : wc.frozen? ⟨go29, ((ji26) : Int).toNat * 3 + 1, none⟩ = false := hfr29 1
                              have hf29_2 : wc.frozen? ⟨go29, ((ji26) : Int).toNat * 3 + 2, none⟩ = false := hfr29 2
                              clear hcl29 hcc29 hfr29 hM29
                              replace p29 := eq_true p29
                              replace q29 := eq_true q29
                              have HX31 := Aside0.mk (show Kd.R k44 44 wc w.heap.size (fun _ => True) (.slice (some ⟨go29, 0, none⟩) x4_1.length co17) x4_1 from (by (with_reducible repeat (first | apply Kd.R_alloc | apply Kd.R_drewN | apply Kd.R_drew)); exact HO_4.out))
                              obtain ⟨ce31, hcl31, hM31, hcc31, hfr31⟩ := Kd.R_elem HX31.out z44 ((ji26) : Int) (of_decide_eq_true (by first | (with_reducible assumption) | assumption)) (by have h_ : ((ji26) : Int) < ((x4_1.length : Int) : Int) := of_decide_eq_true (by first | (with_reducible assumption) | assumption); first | exact h_ | (have e_ := (Kd.R_reads' HO_4.out).1; omega) | simpa using h_)
                              obtain rfl := k44_openM hM31
                              have HP31 := Kd.R_seg HX31.out ((ji26) : Int) (of_decide_eq_true (by first | (with_reducible assumption) | assumption)) (by have h_ : ((ji26) : Int) < ((x4_1.length : Int) : Int) := of_decide_eq_true (by first | (with_reducible assumption) | assumption); first | exact h_ | (have e_ := (Kd.R_reads' HO_4.out).1; omega) | simpa using h_) (seg := [.int .i64 ((rd_T41 l0 x14_1).f0)]) (j := 1) hcl31 hcc31 (show 2 ≤ 3 from by decide) (x' := (⟨(rd_T44 x4_1 (ji26)).f0, ((rd_T41 l0 x14_1).f0), (rd_T44 x4_1 (ji26)).f2⟩ : S44)) (k44_mkM _ _ _ (⟨(rd_T44 x4_1 (ji26)).f0, ((rd_T41 l0 x14_1).f0), (rd_T44 x4_1 (ji26)).f2⟩ : S44) ) (fun _ hk => hk)
                              have hx31_1 := hcc31 1 _ rfl
                              (try simp only [show (k44).sz = 3 from rfl, Nat.mul_one, Nat.add_zero] at hx31_1)
                              have hf31_1 := hfr31 1
                              (try simp only [show (k44).sz = 3 from rfl, Nat.mul_one, Nat.add_zero] at hf31_1)
                              clear hcl31 hcc31 hfr31 hM31
                              go_wp2_with (first | ((with_reducible refine gate_store (t := 3) (p := 73) rfl ?_); (try (rw [drewN_self wc]; generalize hq_ : World.drewN wc _ = wc; have n0_ := Aside0.mk (Kd.R_at hq_ HO_4.out); have n1_ := Aside0.mk (blk_at hq_ BK118.out); have n2_ := Aside0.mk (below_at hq_ HB.out); clear hq_ HO_4 BK118 HB; have HO_4 := n0_; have BK118 := n1_; have HB := n2_; clear n0_ n1_ n2_; (try (have HX31 := Aside0.mk (show Kd.R k44 44 wc w.heap.size (fun _ => True) (.slice (some ⟨go29, 0, none⟩) x4_1.length co17) x4_1 from (by (with_reducible repeat (first | apply Kd.R_alloc | apply Kd.R_drewN | apply Kd.R_drew)); exact HO_4.out)))); (try (obtain ⟨ce31, hcl31, hM31, hcc31, hfr31⟩ := Kd.R_elem HX31.out z44 ((ji26) : Int) (of_decide_eq_true (by first | (with_reducible assumption) | assumption)) (by have h_ : ((ji26) : Int) < ((x4_1.length : Int) : Int) := of_decide_eq_true (by first | (with_reducible assumption) | assumption); first | exact h_ | (have e_ := (Kd.R_reads' HO_4.out).1; omega) | simpa using h_))); (try (obtain rfl := k44_openM hM31)); (try (have HP31 := Kd.R_seg HX31.out ((ji26) : Int) (of_decide_eq_true (by first | (with_reducible assumption) | assumption)) (by have h_ : ((ji26) : Int) < ((x4_1.length : Int) : Int) := of_decide_eq_true (by first | (with_reducible assumption) | assumption); first | exact h_ | (have e_ := (Kd.R_reads' HO_4.out).1; omega) | simpa using h_) (seg := [.int .i64 ((rd_T41 l0 x14_1).f0)]) (j := 1) hcl31 hcc31 (show 2 ≤ 3 from by decide) (x' := (⟨(rd_T44 x4_1 (ji26)).f0, ((rd_T41 l0 x14_1).f0), (rd_T44 x4_1 (ji26)).f2⟩ : S44)) (k44_mkM _ _ _ (⟨(rd_T44 x4_1 (ji26)).f0, ((rd_T41 l0 x14_1).f0), (rd_T44 x4_1 (ji26)).f2⟩ : S44) ) (fun _ hk => hk))); (try (have hx31_1 := hcc31 1 _ rfl)); (try (try simp only [show (k44).sz = 3 from rfl, Nat.mul_one, Nat.add_zero] at hx31_1)); (try (have hf31_1 := hfr31 1)); (try (try simp only [show (k44).sz = 3 from rfl, Nat.mul_one, Nat.add_zero] at hf31_1)); (try (clear hcl31 hcc31 hfr31 hM31)))); refine store_event (t := 3) (p := 73) (v := ?vo_w32) (w1 := (wc.setCell ⟨go29, ((ji26) : Int).toNat * 3 + 1, none⟩ (.int .i64 ((rd_T41 l0 x14_1).f0)))) ?hg ?ho ?hn ?hr ?_; (case ho => rfl); (case hg => rfl); (case hn => rfl); (case hr => first | (go_simp; done) | (go_simp; rfl)); intro w32 hw; have hg : wc.grownBy w32 (some go29) := (by rw [hw]; exact HP31.2); have hp_ : Kd.R k44 44 w32 w.heap.size (fun _ => True) (.slice (some ⟨go29, 0, none⟩) x4_1.length co17) y122 := (by rw [hw, Ny122.out]; exact HP31.1); clear HP31; have n0_ := Aside0.mk (hp_); have n1_ := Aside0.mk (blk_grown (g := gb118) (o := .cells #[.int .i64 ((rd_T41 l0 x14_1).f0), .int .i32 ((rd_T41 l0 x14_1).f1)] 41 (0, 0)) (by (with_reducible repeat (first | refine blk_drewN ?_ _ | refine blk_drew ?_ | refine blk_alloc ?_ _)); exact BK118.out) hg (Kd.R_ne HO_4.out BK118.out (by decide))); have n2_ := Aside0.mk ((by rw [hw]; exact below_set (HB.out) GB29.out : Below w.heap.size w w32)); clear HO_4; clear BK118; clear HB; have HO_4 := n0_; have BK118 := n1_; have HB := n2_; clear n0_ n1_ n2_; clear hg hw hp_; have hcz33_0 : w32.cell? ⟨gb118, 0, none⟩ = some (.int .i64 ((rd_T41 l0 x14_1).f0)) := (blk_cell BK118.out 0).trans rfl; have hcz33_1 : w32.cell? ⟨gb118, 1, none⟩ = some (.int .i32 ((rd_T41 l0 x14_1).f1)) := (blk_cell BK118.out 1).trans rfl; have hfz33_0 := blk_frozen BK118.out 0; have hfz33_1 := blk_frozen BK118.out 1))
                              repeat (go_quiet (first | ((with_reducible refine gate_store (t := 3) (p := 73) rfl ?_); (try (rw [drewN_self wc]; generalize hq_ : World.drewN wc _ = wc; have n0_ := Aside0.mk (Kd.R_at hq_ HO_4.out); have n1_ := Aside0.mk (blk_at hq_ BK118.out); have n2_ := Aside0.mk (below_at hq_ HB.out); clear hq_ HO_4 BK118 HB; have HO_4 := n0_; have BK118 := n1_; have HB := n2_; clear n0_ n1_ n2_; (try (have HX31 := Aside0.mk (show Kd.R k44 44 wc w.heap.size (fun _ => True) (.slice (some ⟨go29, 0, none⟩) x4_1.length co17) x4_1 from (by (with_reducible repeat (first | apply Kd.R_alloc | apply Kd.R_drewN | apply Kd.R_drew)); exact HO_4.out)))); (try (obtain ⟨ce31, hcl31, hM31, hcc31, hfr31⟩ := Kd.R_elem HX31.out z44 ((ji26) : Int) (of_decide_eq_true (by first | (with_reducible assumption) | assumption)) (by have h_ : ((ji26) : Int) < ((x4_1.length : Int) : Int) := of_decide_eq_true (by first | (with_reducible assumption) | assumption); first | exact h_ | (have e_ := (Kd.R_reads' HO_4.out).1; omega) | simpa using h_))); (try (obtain rfl := k44_openM hM31)); (try (have HP31 := Kd.R_seg HX31.out ((ji26) : Int) (of_decide_eq_true (by first | (with_reducible assumption) | assumption)) (by have h_ : ((ji26) : Int) < ((x4_1.length : Int) : Int) := of_decide_eq_true (by first | (with_reducible assumption) | assumption); first | exact h_ | (have e_ := (Kd.R_reads' HO_4.out).1; omega) | simpa using h_) (seg := [.int .i64 ((rd_T41 l0 x14_1).f0)]) (j := 1) hcl31 hcc31 (show 2 ≤ 3 from by decide) (x' := (⟨(rd_T44 x4_1 (ji26)).f0, ((rd_T41 l0 x14_1).f0), (rd_T44 x4_1 (ji26)).f2⟩ : S44)) (k44_mkM _ _ _ (⟨(rd_T44 x4_1 (ji26)).f0, ((rd_T41 l0 x14_1).f0), (rd_T44 x4_1 (ji26)).f2⟩ : S44) ) (fun _ hk => hk))); (try (have hx31_1 := hcc31 1 _ rfl)); (try (try simp only [show (k44).sz = 3 from rfl, Nat.mul_one, Nat.add_zero] at hx31_1)); (try (have hf31_1 := hfr31 1)); (try (try simp only [show (k44).sz = 3 from rfl, Nat.mul_one, Nat.add_zero] at hf31_1)); (try (clear hcl31 hcc31 hfr31 hM31)))); refine store_event (t := 3) (p := 73) (v := ?vo_w32) (w1 := (wc.setCell ⟨go29, ((ji26) : Int).toNat * 3 + 1, none⟩ (.int .i64 ((rd_T41 l0 x14_1).f0)))) ?hg ?ho ?hn ?hr ?_; (case ho => rfl); (case hg => rfl); (case hn => rfl); (case hr => first | (go_simp; done) | (go_simp; rfl)); intro w32 hw; have hg : wc.grownBy w32 (some go29) := (by rw [hw]; exact HP31.2); have hp_ : Kd.R k44 44 w32 w.heap.size (fun _ => True) (.slice (some ⟨go29, 0, none⟩) x4_1.length co17) y122 := (by rw [hw, Ny122.out]; exact HP31.1); clear HP31; have n0_ := Aside0.mk (hp_); have n1_ := Aside0.mk (blk_grown (g := gb118) (o := .cells #[.int .i64 ((rd_T41 l0 x14_1).f0), .int .i32 ((rd_T41 l0 x14_1).f1)] 41 (0, 0)) (by (with_reducible repeat (first | refine blk_drewN ?_ _ | refine blk_drew ?_ | refine blk_alloc ?_ _)); exact BK118.out) hg (Kd.R_ne HO_4.out BK118.out (by decide))); have n2_ := Aside0.mk ((by rw [hw]; exact below_set (HB.out) GB29.out : Below w.heap.size w w32)); clear HO_4; clear BK118; clear HB; have HO_4 := n0_; have BK118 := n1_; have HB := n2_; clear n0_ n1_ n2_; clear hg hw hp_; have hcz33_0 : w32.cell? ⟨gb118, 0, none⟩ = some (.int .i64 ((rd_T41 l0 x14_1).f0)) := (blk_cell BK118.out 0).trans rfl; have hcz33_1 : w32.cell? ⟨gb118, 1, none⟩ = some (.int .i32 ((rd_T41 l0 x14_1).f1)) := (blk_cell BK118.out 1).trans rfl; have hfz33_0 := blk_frozen BK118.out 0; have hfz33_1 := blk_frozen BK118.out 1)); try go_wp2_with (first | ((with_reducible refine gate_store (t := 3) (p := 73) rfl ?_); (try (rw [drewN_self wc]; generalize hq_ : World.drewN wc _ = wc; have n0_ := Aside0.mk (Kd.R_at hq_ HO_4.out); have n1_ := Aside0.mk (blk_at hq_ BK118.out); have n2_ := Aside0.mk (below_at hq_ HB.out); clear hq_ HO_4 BK118 HB; have HO_4 := n0_; have BK118 := n1_; have HB := n2_; clear n0_ n1_ n2_; (try (have HX31 := Aside0.mk (show Kd.R k44 44 wc w.heap.size (fun _ => True) (.slice (some ⟨go29, 0, none⟩) x4_1.length co17) x4_1 from (by (with_reducible repeat (first | apply Kd.R_alloc | apply Kd.R_drewN | apply Kd.R_drew)); exact HO_4.out)))); (try (obtain ⟨ce31, hcl31, hM31, hcc31, hfr31⟩ := Kd.R_elem HX31.out z44 ((ji26) : Int) (of_decide_eq_true (by first | (with_reducible assumption) | assumption)) (by have h_ : ((ji26) : Int) < ((x4_1.length : Int) : Int) := of_decide_eq_true (by first | (with_reducible assumption) | assumption); first | exact h_ | (have e_ := (Kd.R_reads' HO_4.out).1; omega) | simpa using h_))); (try (obtain rfl := k44_openM hM31)); (try (have HP31 := Kd.R_seg HX31.out ((ji26) : Int) (of_decide_eq_true (by first | (with_reducible assumption) | assumption)) (by have h_ : ((ji26) : Int) < ((x4_1.length : Int) : Int) := of_decide_eq_true (by first | (with_reducible assumption) | assumption); first | exact h_ | (have e_ := (Kd.R_reads' HO_4.out).1; omega) | simpa using h_) (seg := [.int .i64 ((rd_T41 l0 x14_1).f0)]) (j := 1) hcl31 hcc31 (show 2 ≤ 3 from by decide) (x' := (⟨(rd_T44 x4_1 (ji26)).f0, ((rd_T41 l0 x14_1).f0), (rd_T44 x4_1 (ji26)).f2⟩ : S44)) (k44_mkM _ _ _ (⟨(rd_T44 x4_1 (ji26)).f0, ((rd_T41 l0 x14_1).f0), (rd_T44 x4_1 (ji26)).f2⟩ : S44) ) (fun _ hk => hk))); (try (have hx31_1 := hcc31 1 _ rfl)); (try (try simp only [show (k44).sz = 3 from rfl, Nat.mul_one, Nat.add_zero] at hx31_1)); (try (have hf31_1 := hfr31 1)); (try (try simp only [show (k44).sz = 3 from rfl, Nat.mul_one, Nat.add_zero] at hf31_1)); (try (clear hcl31 hcc31 hfr31 hM31)))); refine store_event (t := 3) (p := 73) (v := ?vo_w32) (w1 := (wc.setCell ⟨go29, ((ji26) : Int).toNat * 3 + 1, none⟩ (.int .i64 ((rd_T41 l0 x14_1).f0)))) ?hg ?ho ?hn ?hr ?_; (case ho => rfl); (case hg => rfl); (case hn => rfl); (case hr => first | (go_simp; done) | (go_simp; rfl)); intro w32 hw; have hg : wc.grownBy w32 (some go29) := (by rw [hw]; exact HP31.2); have hp_ : Kd.R k44 44 w32 w.heap.size (fun _ => True) (.slice (some ⟨go29, 0, none⟩) x4_1.length co17) y122 := (by rw [hw, Ny122.out]; exact HP31.1); clear HP31; have n0_ := Aside0.mk (hp_); have n1_ := Aside0.mk (blk_grown (g := gb118) (o := .cells #[.int .i64 ((rd_T41 l0 x14_1).f0), .int .i32 ((rd_T41 l0 x14_1).f1)] 41 (0, 0)) (by (with_reducible repeat (first | refine blk_drewN ?_ _ | refine blk_drew ?_ | refine blk_alloc ?_ _)); exact BK118.out) hg (Kd.R_ne HO_4.out BK118.out (by decide))); have n2_ := Aside0.mk ((by rw [hw]; exact below_set (HB.out) GB29.out : Below w.heap.size w w32)); clear HO_4; clear BK118; clear HB; have HO_4 := n0_; have BK118 := n1_; have HB := n2_; clear n0_ n1_ n2_; clear hg hw hp_; have hcz33_0 : w32.cell? ⟨gb118, 0, none⟩ = some (.int .i64 ((rd_T41 l0 x14_1).f0)) := (blk_cell BK118.out 0).trans rfl; have hcz33_1 : w32.cell? ⟨gb118, 1, none⟩ = some (.int .i32 ((rd_T41 l0 x14_1).f1)) := (blk_cell BK118.out 1).trans rfl; have hfz33_0 := blk_frozen BK118.out 0; have hfz33_1 := blk_frozen BK118.out 1)))
                              go_roundg kj15
                              case measure => have := HK1.out; have := HJ5.out; have := HJ15.out; omega
                              case rel => exact ⟨(y122), (((rd_T41 l0 x14_1).f0)), (wrap64 (x14_1 + 1)), (by first | rfl | (simp; done) | (simp [*]; done)), (by first | rfl | (simp; done) | (simp [*]; done)), H', ⟨by have := HK1.out; have := HJ5.out; have := HJ15.out; omega⟩, ⟨by (with_reducible repeat (first | apply Kd.R_alloc | apply Kd.R_drewN | apply Kd.R_drew)); exact HO_4.out⟩, ⟨by repeat (first | (with_reducible first | exact HB.out | apply below_alloc | apply pw_below_drewN | apply below_drew1 | refine below_set ?_ GE118.out) | exact HB.out)⟩⟩
                            · rw [if_neg c28] at H
                              exact absurd H (by simp)
                          · rw [if_neg c27] at H
                            exact absurd H (by simp)
                        · replace c25 := Bool.eq_false_iff.mpr c25
                          subst c25
                          have H1 : (if x4_1.length < 5864062014805 then (ranges_Pack.l0 kj15 (x4_1 ++ [(⟨((rd_T41 l0 x14_1).f0), ((rd_T41 l0 x14_1).f0), ((rd_T41 l0 x14_1).f1)⟩ : S44)]) ((rd_T41 l0 x14_1).f0) l0 (l0.length : Int) (wrap64 (x14_1 + 1))) else (none)) = some (r1, r2) := by rw [if_neg (show ¬ (false = true) by decide)] at H; exact H
                          clear H
                          have H := H1
                          clear H1
                          by_cases c34 : x4_1.length < 5864062014805
                          · rw [if_pos c34] at H
                            have LMc34 := Aside0.mk c34
                            clear c34
                            obtain ⟨y123, hy123⟩ : ∃ y_ : List (S44), y_ = (x4_1 ++ [(⟨((rd_T41 l0 x14_1).f0), ((rd_T41 l0 x14_1).f0), ((rd_T41 l0 x14_1).f1)⟩ : S44)]) := ⟨_, rfl⟩
                            replace H : (ranges_Pack.l0 kj15 y123 ((rd_T41 l0 x14_1).f0) l0 (l0.length : Int) (wrap64 (x14_1 + 1))) = some (r1, r2) := by first | (rw [hy123]; with_reducible exact H) | (have H2_ := (Option.bind_some _ _).symm.trans H; rw [hy123]; with_reducible exact H2_) | (have H2_ := (Option.bind_some _ _).symm.trans H; with_reducible exact H2_) | with_reducible exact H | (rw [hy123]; exact H) | exact H
                            have Ny123 := Aside0.mk hy123
                            clear hy123
                            have H' := Aside0.mk H
                            clear H
                            have hcz35_0 : wc.cell? ⟨gb118, 0, none⟩ = some (.int .i64 ((rd_T41 l0 x14_1).f0)) := (blk_cell BK118.out 0).trans rfl
                            have hcz35_1 : wc.cell? ⟨gb118, 1, none⟩ = some (.int .i32 ((rd_T41 l0 x14_1).f1)) := (blk_cell BK118.out 1).trans rfl
                            have hfz35_0 := blk_frozen BK118.out 0
                            have hfz35_1 := blk_frozen BK118.out 1
                            go_wp2_with (first | ((with_reducible refine gate_builtin (b := .append) (xs := #[.tmp 74, .tmp 82]) rfl ?_); at_builtin; refine Kd.R_append k44 (w0 := w) w.heap.size rfl (.tmp 74) (.tmp 82) 23 44 (.agg #[(.int .i64 0), (.int .i64 0), (.int .i32 0)]) 24 rfl Try.underlying23 info44 rfl (by decide) (by omega) (.slice Ao17 x4_1.length co17) x4_1 (⟨((rd_T41 l0 x14_1).f0), ((rd_T41 l0 x14_1).f0), ((rd_T41 l0 x14_1).f1)⟩ : S44) [.int .i64 ((rd_T41 l0 x14_1).f0), .int .i64 ((rd_T41 l0 x14_1).f0), .int .i32 ((rd_T41 l0 x14_1).f1)] (fun _ => True) (fun _ => False) rfl rfl ?aP (fun _ hk => hk.elim) ?aF ?aO ?aB ?aS ?aL ?_; (case aP => exact k44_mkM _ _ _ (⟨((rd_T41 l0 x14_1).f0), ((rd_T41 l0 x14_1).f0), ((rd_T41 l0 x14_1).f1)⟩ : S44)); (case aB => exact (by repeat (first | (with_reducible first | exact HB.out | apply below_alloc | apply pw_below_drewN | apply below_drew1 | refine below_set ?_ GE118.out) | exact HB.out))); (case aF => exact (fun _ _ => trivial)); (case aO => exact (by (with_reducible repeat (first | apply Kd.R_alloc | apply Kd.R_drewN | apply Kd.R_drew)); exact HO_4.out)); (case aS => exact (below_size (by repeat (first | (with_reducible first | exact HB.out | apply below_alloc | apply pw_below_drewN | apply below_drew1 | refine below_set ?_ GE118.out) | exact HB.out)))); (case aL => have := LMc34.out; omega); intro v124 w36 ho hb hg hat; rw [← Ny123.out] at ho; have n0_ := Aside0.mk (blk_grown (g := gb118) (o := .cells #[.int .i64 ((rd_T41 l0 x14_1).f0), .int .i32 ((rd_T41 l0 x14_1).f1)] 41 (0, 0)) (by (with_reducible repeat (first | refine blk_drewN ?_ _ | refine blk_drew ?_ | refine blk_alloc ?_ _)); exact BK118.out) hg (Kd.R_ne HO_4.out BK118.out (by decide))); have n1_ := Aside0.mk (hb); have n2_ := Aside0.mk (ho); clear BK118; clear HB; clear HO_4; have BK118 := n0_; have HB := n1_; have HO125 := n2_; clear n0_ n1_ n2_; clear ho hb hg hat; have hcz37_0 : w36.cell? ⟨gb118, 0, none⟩ = some (.int .i64 ((rd_T41 l0 x14_1).f0)) := (blk_cell BK118.out 0).trans rfl; have hcz37_1 : w36.cell? ⟨gb118, 1, none⟩ = some (.int .i32 ((rd_T41 l0 x14_1).f1)) := (blk_cell BK118.out 1).trans rfl; have hfz37_0 := blk_frozen BK118.out 0; have hfz37_1 := blk_frozen BK118.out 1))
                            repeat (go_quiet (first | ((with_reducible refine gate_builtin (b := .append) (xs := #[.tmp 74, .tmp 82]) rfl ?_); at_builtin; refine Kd.R_append k44 (w0 := w) w.heap.size rfl (.tmp 74) (.tmp 82) 23 44 (.agg #[(.int .i64 0), (.int .i64 0), (.int .i32 0)]) 24 rfl Try.underlying23 info44 rfl (by decide) (by omega) (.slice Ao17 x4_1.length co17) x4_1 (⟨((rd_T41 l0 x14_1).f0), ((rd_T41 l0 x14_1).f0), ((rd_T41 l0 x14_1).f1)⟩ : S44) [.int .i64 ((rd_T41 l0 x14_1).f0), .int .i64 ((rd_T41 l0 x14_1).f0), .int .i32 ((rd_T41 l0 x14_1).f1)] (fun _ => True) (fun _ => False) rfl rfl ?aP (fun _ hk => hk.elim) ?aF ?aO ?aB ?aS ?aL ?_; (case aP => exact k44_mkM _ _ _ (⟨((rd_T41 l0 x14_1).f0), ((rd_T41 l0 x14_1).f0), ((rd_T41 l0 x14_1).f1)⟩ : S44)); (case aB => exact (by repeat (first | (with_reducible first | exact HB.out | apply below_alloc | apply pw_below_drewN | apply below_drew1 | refine below_set ?_ GE118.out) | exact HB.out))); (case aF => exact (fun _ _ => trivial)); (case aO => exact (by (with_reducible repeat (first | apply Kd.R_alloc | apply Kd.R_drewN | apply Kd.R_drew)); exact HO_4.out)); (case aS => exact (below_size (by repeat (first | (with_reducible first | exact HB.out | apply below_alloc | apply pw_below_drewN | apply below_drew1 | refine below_set ?_ GE118.out) | exact HB.out)))); (case aL => have := LMc34.out; omega); intro v124 w36 ho hb hg hat; rw [← Ny123.out] at ho; have n0_ := Aside0.mk (blk_grown (g := gb118) (o := .cells #[.int .i64 ((rd_T41 l0 x14_1).f0), .int .i32 ((rd_T41 l0 x14_1).f1)] 41 (0, 0)) (by (with_reducible repeat (first | refine blk_drewN ?_ _ | refine blk_drew ?_ | refine blk_alloc ?_ _)); exact BK118.out) hg (Kd.R_ne HO_4.out BK118.out (by decide))); have n1_ := Aside0.mk (hb); have n2_ := Aside0.mk (ho); clear BK118; clear HB; clear HO_4; have BK118 := n0_; have HB := n1_; have HO125 := n2_; clear n0_ n1_ n2_; clear ho hb hg hat; have hcz37_0 : w36.cell? ⟨gb118, 0, none⟩ = some (.int .i64 ((rd_T41 l0 x14_1).f0)) := (blk_cell BK118.out 0).trans rfl; have hcz37_1 : w36.cell? ⟨gb118, 1, none⟩ = some (.int .i32 ((rd_T41 l0 x14_1).f1)) := (blk_cell BK118.out 1).trans rfl; have hfz37_0 := blk_frozen BK118.out 0; have hfz37_1 := blk_frozen BK118.out 1)); try go_wp2_with (first | ((with_reducible refine gate_builtin (b := .append) (xs := #[.tmp 74, .tmp 82]) rfl ?_); at_builtin; refine Kd.R_append k44 (w0 := w) w.heap.size rfl (.tmp 74) (.tmp 82) 23 44 (.agg #[(.int .i64 0), (.int .i64 0), (.int .i32 0)]) 24 rfl Try.underlying23 info44 rfl (by decide) (by omega) (.slice Ao17 x4_1.length co17) x4_1 (⟨((rd_T41 l0 x14_1).f0), ((rd_T41 l0 x14_1).f0), ((rd_T41 l0 x14_1).f1)⟩ : S44) [.int .i64 ((rd_T41 l0 x14_1).f0), .int .i64 ((rd_T41 l0 x14_1).f0), .int .i32 ((rd_T41 l0 x14_1).f1)] (fun _ => True) (fun _ => False) rfl rfl ?aP (fun _ hk => hk.elim) ?aF ?aO ?aB ?aS ?aL ?_; (case aP => exact k44_mkM _ _ _ (⟨((rd_T41 l0 x14_1).f0), ((rd_T41 l0 x14_1).f0), ((rd_T41 l0 x14_1).f1)⟩ : S44)); (case aB => exact (by repeat (first | (with_reducible first | exact HB.out | apply below_alloc | apply pw_below_drewN | apply below_drew1 | refine below_set ?_ GE118.out) | exact HB.out))); (case aF => exact (fun _ _ => trivial)); (case aO => exact (by (with_reducible repeat (first | apply Kd.R_alloc | apply Kd.R_drewN | apply Kd.R_drew)); exact HO_4.out)); (case aS => exact (below_size (by repeat (first | (with_reducible first | exact HB.out | apply below_alloc | apply pw_below_drewN | apply below_drew1 | refine below_set ?_ GE118.out) | exact HB.out)))); (case aL => have := LMc34.out; omega); intro v124 w36 ho hb hg hat; rw [← Ny123.out] at ho; have n0_ := Aside0.mk (blk_grown (g := gb118) (o := .cells #[.int .i64 ((rd_T41 l0 x14_1).f0), .int .i32 ((rd_T41 l0 x14_1).f1)] 41 (0, 0)) (by (with_reducible repeat (first | refine blk_drewN ?_ _ | refine blk_drew ?_ | refine blk_alloc ?_ _)); exact BK118.out) hg (Kd.R_ne HO_4.out BK118.out (by decide))); have n1_ := Aside0.mk (hb); have n2_ := Aside0.mk (ho); clear BK118; clear HB; clear HO_4; have BK118 := n0_; have HB := n1_; have HO125 := n2_; clear n0_ n1_ n2_; clear ho hb hg hat; have hcz37_0 : w36.cell? ⟨gb118, 0, none⟩ = some (.int .i64 ((rd_T41 l0 x14_1).f0)) := (blk_cell BK118.out 0).trans rfl; have hcz37_1 : w36.cell? ⟨gb118, 1, none⟩ = some (.int .i32 ((rd_T41 l0 x14_1).f1)) := (blk_cell BK118.out 1).trans rfl; have hfz37_0 := blk_frozen BK118.out 0; have hfz37_1 := blk_frozen BK118.out 1)))
                            go_roundg kj15
                            case measure => have := HK1.out; have := HJ5.out; have := HJ15.out; omega
                            case rel => exact ⟨(y123), (((rd_T41 l0 x14_1).f0)), (wrap64 (x14_1 + 1)), (by first | rfl | (simp; done) | (simp [*]; done)), (by first | rfl | (simp; done) | (simp [*]; done)), H', ⟨by have := HK1.out; have := HJ5.out; have := HJ15.out; omega⟩, ⟨by (with_reducible repeat (first | apply Kd.R_alloc | apply Kd.R_drewN | apply Kd.R_drew)); exact HO125.out⟩, ⟨by repeat (first | (with_reducible first | exact HB.out | apply below_alloc | apply pw_below_drewN | apply below_drew1 | refine below_set ?_ GE118.out) | exact HB.out)⟩⟩
                          · rw [if_neg c34] at H
                            exact absurd H (by simp)
            · rw [if_neg c5] at H
              exact absurd H (by simp)
          · rw [if_neg c4] at H
            exact absurd H (by simp)
        · rw [if_neg c3] at H
          have c3b0 : decide (x14_1 < (l0.length : Int)) = false := decide_eq_false c3
          clear c3
          simp only [Option.some.injEq, Prod.mk.injEq] at H
          obtain ⟨rfl, rfl⟩ := H
          go_wp2
          repeat (go_quiet (fail); try go_wp2)
          go_ret2
          exact ⟨_, by first | rfl | (simp [errW_none, errW_some] <;> rfl) | (simp [*, errW_none, errW_some] <;> rfl), by (with_reducible repeat (first | apply Kd.R_alloc | apply Kd.R_drewN | apply Kd.R_drew)); exact HO_4.out, by repeat (first | (with_reducible first | exact HB.out | apply below_alloc | apply pw_below_drewN | apply below_drew1) | exact HB.out)⟩

/-! ### dragomanlaw06_works: function 20 -/
def dragomanlaw06_works.f (k : Nat)  : Option (Bool) := (ranges_Pack.f k (([(⟨1, 97⟩ : S41), (⟨2, 98⟩ : S41), (⟨4, 99⟩ : S41)] : List (S41)))).bind fun bt129 => ((ranges_Scalar.f k bt129.1 2).bind fun bt133 => ((ranges_Code.f k bt129.1 99).bind fun bt135 => (if bt129.2 = 0 then (if (bt129.1.length : Int) = 2 then (if bt133.1 = 98 then (if bt133.2 = true then (if bt135.1 = 4 then (if bt135.2 = true then ((ranges_Check.f k (([(⟨2, 1, 0⟩ : S44)] : List (S44)))).bind fun t140 => (some (t140 == 3))) else (some false)) else (some false)) else (some false)) else (some false)) else (some false)) else (some false))))
theorem dragomanlaw06_works.mono : ∀ k, LeO (dragomanlaw06_works.f k ) (dragomanlaw06_works.f (k + 1) ) := by
  intro  k
  unfold dragomanlaw06_works.f
  repeat' first
      | (with_reducible exact ranges_Check.mono _ _)
      | (with_reducible exact ranges_Code.mono _ _ _)
      | (with_reducible exact ranges_Pack.mono _ _)
      | (with_reducible exact ranges_Scalar.mono _ _ _)
      | (with_reducible exact LeO.refl _)
      | (with_reducible exact LeO.none _)
      | (with_reducible refine LeO.ite ?_ ?_)
      | (with_reducible refine LeO.bind ?_ (fun _ => ?_))
      | exact ranges_Check.mono _ _
      | exact ranges_Code.mono _ _ _
      | exact ranges_Pack.mono _ _
      | exact ranges_Scalar.mono _ _ _
      | exact LeO.none _
      | refine LeO.ite ?_ ?_
      | refine LeO.bind ?_ (fun _ => ?_)
set_option maxHeartbeats 8000000 in
set_option maxRecDepth 100000 in
theorem dragomanlaw06_works.calls (k : Nat)  (r : Bool) (w : World) (h : dragomanlaw06_works.f k  = some r) :
    Calls Try.prog 20 #[] w fun e w' => e = .returned (.bool r) ∧ Below w.heap.size w w' := by
  have hu41 := Try.underlying41
  have hu44 := Try.underlying44
  have HB := Aside0.mk (Below.refl w.heap.size w)
  have H : ((ranges_Pack.f k (([(⟨1, 97⟩ : S41), (⟨2, 98⟩ : S41), (⟨4, 99⟩ : S41)] : List (S41)))).bind fun bt129 => ((ranges_Scalar.f k bt129.1 2).bind fun bt133 => ((ranges_Code.f k bt129.1 99).bind fun bt135 => (if bt129.2 = 0 then (if (bt129.1.length : Int) = 2 then (if bt133.1 = 98 then (if bt133.2 = true then (if bt135.1 = 4 then (if bt135.2 = true then ((ranges_Check.f k (([(⟨2, 1, 0⟩ : S44)] : List (S44)))).bind fun t140 => (some (t140 == 3))) else (some false)) else (some false)) else (some false)) else (some false)) else (some false)) else (some false))))) = some r := h
  clear h
  obtain ⟨y126, hy126⟩ : ∃ y_ : List (S41), y_ = (([(⟨1, 97⟩ : S41), (⟨2, 98⟩ : S41), (⟨4, 99⟩ : S41)] : List (S41))) := ⟨_, rfl⟩
  replace H : ((ranges_Pack.f k y126).bind fun bt129 => ((ranges_Scalar.f k bt129.1 2).bind fun bt133 => ((ranges_Code.f k bt129.1 99).bind fun bt135 => (if bt129.2 = 0 then (if (bt129.1.length : Int) = 2 then (if bt133.1 = 98 then (if bt133.2 = true then (if bt135.1 = 4 then (if bt135.2 = true then ((ranges_Check.f k (([(⟨2, 1, 0⟩ : S44)] : List (S44)))).bind fun t140 => (some (t140 == 3))) else (some false)) else (some false)) else (some false)) else (some false)) else (some false)) else (some false))))) = some r := by first | (rw [hy126]; with_reducible exact H) | (have H2_ := (Option.bind_some _ _).symm.trans H; rw [hy126]; with_reducible exact H2_) | (have H2_ := (Option.bind_some _ _).symm.trans H; with_reducible exact H2_) | with_reducible exact H | (rw [hy126]; exact H) | exact H
  have Ny126 := Aside0.mk hy126
  clear hy126
  replace H := Option.bind_eq_some_iff.mp H
  obtain ⟨⟨t129, t130⟩, A10, H⟩ := H
  replace H : ((ranges_Scalar.f k t129 2).bind fun bt133 => ((ranges_Code.f k t129 99).bind fun bt135 => (if t130 = 0 then (if (t129.length : Int) = 2 then (if bt133.1 = 98 then (if bt133.2 = true then (if bt135.1 = 4 then (if bt135.2 = true then ((ranges_Check.f k (([(⟨2, 1, 0⟩ : S44)] : List (S44)))).bind fun t140 => (some (t140 == 3))) else (some false)) else (some false)) else (some false)) else (some false)) else (some false)) else (some false)))) = some r := H
  have A1 := Aside0.mk A10
  clear A10
  replace H := Option.bind_eq_some_iff.mp H
  obtain ⟨⟨t133, t134⟩, A20, H⟩ := H
  replace H : ((ranges_Code.f k t129 99).bind fun bt135 => (if t130 = 0 then (if (t129.length : Int) = 2 then (if t133 = 98 then (if t134 = true then (if bt135.1 = 4 then (if bt135.2 = true then ((ranges_Check.f k (([(⟨2, 1, 0⟩ : S44)] : List (S44)))).bind fun t140 => (some (t140 == 3))) else (some false)) else (some false)) else (some false)) else (some false)) else (some false)) else (some false))) = some r := H
  have A2 := Aside0.mk A20
  clear A20
  replace H := Option.bind_eq_some_iff.mp H
  obtain ⟨⟨t135, t136⟩, A30, H⟩ := H
  replace H : (if t130 = 0 then (if (t129.length : Int) = 2 then (if t133 = 98 then (if t134 = true then (if t135 = 4 then (if t136 = true then ((ranges_Check.f k (([(⟨2, 1, 0⟩ : S44)] : List (S44)))).bind fun t140 => (some (t140 == 3))) else (some false)) else (some false)) else (some false)) else (some false)) else (some false)) else (some false)) = some r := H
  have A3 := Aside0.mk A30
  clear A30
  by_cases c4 : t130 = 0
  · rw [if_pos c4] at H
    have c4b0 : (t130 == 0) = true := beq_iff_eq.mpr c4
    have c4b1 : (t130 != 0) = false := bne_eq_false_iff_eq.mpr c4
    clear c4
    by_cases c5 : (t129.length : Int) = 2
    · rw [if_pos c5] at H
      have c5b0 : ((t129.length : Int) == 2) = true := beq_iff_eq.mpr c5
      have c5b1 : ((t129.length : Int) != 2) = false := bne_eq_false_iff_eq.mpr c5
      clear c5
      by_cases c6 : t133 = 98
      · rw [if_pos c6] at H
        have c6b0 : (t133 == 98) = true := beq_iff_eq.mpr c6
        have c6b1 : (t133 != 98) = false := bne_eq_false_iff_eq.mpr c6
        clear c6
        by_cases c7 : t134 = true
        · subst c7
          have H1 : (if t135 = 4 then (if t136 = true then ((ranges_Check.f k (([(⟨2, 1, 0⟩ : S44)] : List (S44)))).bind fun t140 => (some (t140 == 3))) else (some false)) else (some false)) = some r := by rw [if_pos rfl] at H; exact H
          clear H
          have H := H1
          clear H1
          by_cases c8 : t135 = 4
          · rw [if_pos c8] at H
            have c8b0 : (t135 == 4) = true := beq_iff_eq.mpr c8
            have c8b1 : (t135 != 4) = false := bne_eq_false_iff_eq.mpr c8
            clear c8
            by_cases c9 : t136 = true
            · subst c9
              have H1 : ((ranges_Check.f k (([(⟨2, 1, 0⟩ : S44)] : List (S44)))).bind fun t140 => (some (t140 == 3))) = some r := by rw [if_pos rfl] at H; exact H
              clear H
              have H := H1
              clear H1
              obtain ⟨y137, hy137⟩ : ∃ y_ : List (S44), y_ = (([(⟨2, 1, 0⟩ : S44)] : List (S44))) := ⟨_, rfl⟩
              replace H : ((ranges_Check.f k y137).bind fun t140 => (some (t140 == 3))) = some r := by first | (rw [hy137]; with_reducible exact H) | (have H2_ := (Option.bind_some _ _).symm.trans H; rw [hy137]; with_reducible exact H2_) | (have H2_ := (Option.bind_some _ _).symm.trans H; with_reducible exact H2_) | with_reducible exact H | (rw [hy137]; exact H) | exact H
              have Ny137 := Aside0.mk hy137
              clear hy137
              replace H := Option.bind_eq_some_iff.mp H
              obtain ⟨t140, A100, H⟩ := H
              replace H : (some (t140 == 3)) = some r := H
              have A10 := Aside0.mk A100
              clear A100
              obtain rfl := Option.some.inj H
              go_enter Try.func20, Try.ntmps20
              go_wp2_with (first | ((with_reducible refine gate_dst (N := 11) rfl ?_); (try (refine gate_guard (by rfl) ?_; dsimp only)); refine Kd.R_lit k41 _ 41 ?hg (N := 11) ?hd (xs := ([(⟨1, 97⟩ : S41), (⟨2, 98⟩ : S41), (⟨4, 99⟩ : S41)] : List (S41))) (inner := [.int .i64 1, .int .i32 97, .int .i64 2, .int .i32 98, .int .i64 4, .int .i32 99]) (ok := fun _ => True) (okp := fun _ => True) ?hr ?hp (fun _ hk => hk) trivial (Below.refl _ _) (Nat.le_refl _) (by simp) ?_; (case hd => rfl); (case hg => rfl); (case hr => first | (go_simp; done) | (go_simp; rfl)); (case hp => exact (Reps.c2 (show Kd.M k41 _ _ _ (⟨1, 97⟩ : S41) [.int .i64 1, .int .i32 97] from (k41_mkM _ _ _ (⟨1, 97⟩ : S41) )) (Reps.c2 (show Kd.M k41 _ _ _ (⟨2, 98⟩ : S41) [.int .i64 2, .int .i32 98] from (k41_mkM _ _ _ (⟨2, 98⟩ : S41) )) (Reps.c2 (show Kd.M k41 _ _ _ (⟨4, 99⟩ : S41) [.int .i64 4, .int .i32 99] from (k41_mkM _ _ _ (⟨4, 99⟩ : S41) )) (Reps.none _ _))))); intro v127 w11 ho12 hb hg_ hnew_; clear hg_ hnew_; (first | rw [← Ny126.out] at ho12 | (simp only [Int.reduceToNat] at ho12; rw [← Ny126.out] at ho12)); have n0_ := Aside0.mk (Kd.R_lower ho12 (below_size (by repeat (first | (with_reducible first | exact HB.out | apply below_alloc | apply pw_below_drewN | apply below_drew1) | exact HB.out)))); have n1_ := Aside0.mk (below_step (by repeat (first | (with_reducible first | exact HB.out | apply below_alloc | apply pw_below_drewN | apply below_drew1) | exact HB.out)) hb); clear HB; have HO128 := n0_; have HB := n1_; clear n0_ n1_; clear hb ho12; obtain ⟨Ao13, co13, eo13⟩ := Kd.R_slice HO128.out; subst eo13) | ((with_reducible refine gate_callee (f := 8) rfl ?_); refine goesL_ (some 12) rfl rfl Try.func8 (by kernel_rfl) rfl #[.slice Ao13 y126.length co13] rfl (by (try simp only [List.map_toArray, List.map_cons, List.map_nil]); first | done | rfl | (simp only [List.length_drop, List.length_take]; rfl)) ?_; (with_reducible refine (ranges_Pack.calls k _ _ y126 t129 t130 _ ?side1 ?side2 A1.out).mono ?_); (case side1 => repeat (first | exact (Kd.R_reads' HO128.out).2.2 | (with_reducible refine Kd.C_alloc ?_ _) | (with_reducible refine Kd.C_drewN ?_ _) | (with_reducible refine Kd.C_drew ?_))); (case side2 => exact (Kd.R_reads' HO128.out).2.1); rintro e w14 ⟨v131, rfl, ho0, hb⟩; refine ⟨_, rfl, ?_⟩; have n0_ := Aside0.mk (Kd.R_below (by (with_reducible repeat (first | apply Kd.R_alloc | apply Kd.R_drewN | apply Kd.R_drew)); exact HO128.out) hb); have n1_ := Aside0.mk (Kd.R_lower ho0 (below_size (by repeat (first | (with_reducible first | exact HB.out | apply below_alloc | apply pw_below_drewN | apply below_drew1) | exact HB.out)))); have n2_ := Aside0.mk (below_step (by repeat (first | (with_reducible first | exact HB.out | apply below_alloc | apply pw_below_drewN | apply below_drew1) | exact HB.out)) hb); clear HO128; clear HB; have HO128 := n0_; have HO132 := n1_; have HB := n2_; clear n0_ n1_ n2_; (try clear hb); (try clear hb2); (try clear hk); (try clear hi); (try clear ho0); obtain ⟨Ao15, co15, eo15⟩ := Kd.R_slice HO132.out; subst eo15) | ((with_reducible refine gate_callee (f := 16) rfl ?_); refine goesL_ (some 17) rfl rfl Try.func16 (by kernel_rfl) rfl #[.slice Ao15 t129.length co15, .int .i64 2] rfl (by (try simp only [List.map_toArray, List.map_cons, List.map_nil]); first | done | rfl | (simp only [List.length_drop, List.length_take]; rfl)) ?_; (with_reducible refine (ranges_Scalar.calls k _ _ t129 2 t133 true _ ?side1 ?side2 A2.out).mono ?_); (case side1 => repeat (first | exact (Kd.R_reads' HO132.out).2.2 | (with_reducible refine Kd.C_alloc ?_ _) | (with_reducible refine Kd.C_drewN ?_ _) | (with_reducible refine Kd.C_drew ?_))); (case side2 => exact (Kd.R_reads' HO132.out).2.1); rintro e w16 ⟨rfl, hb⟩; refine ⟨_, rfl, ?_⟩; have n0_ := Aside0.mk (Kd.R_below (by (with_reducible repeat (first | apply Kd.R_alloc | apply Kd.R_drewN | apply Kd.R_drew)); exact HO128.out) hb); have n1_ := Aside0.mk (Kd.R_below (by (with_reducible repeat (first | apply Kd.R_alloc | apply Kd.R_drewN | apply Kd.R_drew)); exact HO132.out) hb); have n2_ := Aside0.mk (below_step (by repeat (first | (with_reducible first | exact HB.out | apply below_alloc | apply pw_below_drewN | apply below_drew1) | exact HB.out)) hb); clear HO128; clear HO132; clear HB; have HO128 := n0_; have HO132 := n1_; have HB := n2_; clear n0_ n1_ n2_; (try clear hb); (try clear hb2); (try clear hk); (try clear hi)) | ((with_reducible refine gate_callee (f := 18) rfl ?_); refine goesL_ (some 22) rfl rfl Try.func18 (by kernel_rfl) rfl #[.slice Ao15 t129.length co15, .int .i32 99] rfl (by (try simp only [List.map_toArray, List.map_cons, List.map_nil]); first | done | rfl | (simp only [List.length_drop, List.length_take]; rfl)) ?_; (with_reducible refine (ranges_Code.calls k _ _ t129 99 t135 true _ ?side1 ?side2 A3.out).mono ?_); (case side1 => repeat (first | exact (Kd.R_reads' HO132.out).2.2 | (with_reducible refine Kd.C_alloc ?_ _) | (with_reducible refine Kd.C_drewN ?_ _) | (with_reducible refine Kd.C_drew ?_))); (case side2 => exact (Kd.R_reads' HO132.out).2.1); rintro e w17 ⟨rfl, hb⟩; refine ⟨_, rfl, ?_⟩; have n0_ := Aside0.mk (Kd.R_below (by (with_reducible repeat (first | apply Kd.R_alloc | apply Kd.R_drewN | apply Kd.R_drew)); exact HO128.out) hb); have n1_ := Aside0.mk (Kd.R_below (by (with_reducible repeat (first | apply Kd.R_alloc | apply Kd.R_drewN | apply Kd.R_drew)); exact HO132.out) hb); have n2_ := Aside0.mk (below_step (by repeat (first | (with_reducible first | exact HB.out | apply below_alloc | apply pw_below_drewN | apply below_drew1) | exact HB.out)) hb); clear HO128; clear HO132; clear HB; have HO128 := n0_; have HO132 := n1_; have HB := n2_; clear n0_ n1_ n2_; (try clear hb); (try clear hb2); (try clear hk); (try clear hi)) | ((with_reducible refine gate_dst (N := 48) rfl ?_); (try (refine gate_guard (by rfl) ?_; dsimp only)); refine Kd.R_lit k44 _ 44 ?hg (N := 48) ?hd (xs := ([(⟨2, 1, 0⟩ : S44)] : List (S44))) (inner := [.int .i64 2, .int .i64 1, .int .i32 0]) (ok := fun _ => True) (okp := fun _ => True) ?hr ?hp (fun _ hk => hk) trivial (Below.refl _ _) (Nat.le_refl _) (by simp) ?_; (case hd => rfl); (case hg => rfl); (case hr => first | (go_simp; done) | (go_simp; rfl)); (case hp => exact (Reps.c3 (show Kd.M k44 _ _ _ (⟨2, 1, 0⟩ : S44) [.int .i64 2, .int .i64 1, .int .i32 0] from (k44_mkM _ _ _ (⟨2, 1, 0⟩ : S44) )) (Reps.none _ _))); intro v138 w18 ho19 hb hg_ hnew_; clear hg_ hnew_; (first | rw [← Ny137.out] at ho19 | (simp only [Int.reduceToNat] at ho19; rw [← Ny137.out] at ho19)); have n0_ := Aside0.mk (Kd.R_below (by (with_reducible repeat (first | apply Kd.R_alloc | apply Kd.R_drewN | apply Kd.R_drew)); exact HO128.out) hb); have n1_ := Aside0.mk (Kd.R_elder' (by (with_reducible repeat (first | apply Kd.R_alloc | apply Kd.R_drewN | apply Kd.R_drew)); exact HO132.out) (Kd.R_base ho19) hb); have n2_ := Aside0.mk (Kd.R_lower (Kd.R_new' ho19 (Kd.R_lt (by (with_reducible repeat (first | apply Kd.R_alloc | apply Kd.R_drewN | apply Kd.R_drew)); exact HO132.out))) (below_size (by repeat (first | (with_reducible first | exact HB.out | apply below_alloc | apply pw_below_drewN | apply below_drew1) | exact HB.out)))); have n3_ := Aside0.mk (below_step (by repeat (first | (with_reducible first | exact HB.out | apply below_alloc | apply pw_below_drewN | apply below_drew1) | exact HB.out)) hb); clear HO128; clear HO132; clear HB; have HO128 := n0_; have HO132 := n1_; have HO139 := n2_; have HB := n3_; clear n0_ n1_ n2_ n3_; clear hb ho19; obtain ⟨Ao20, co20, eo20⟩ := Kd.R_slice HO139.out; subst eo20) | (go_at_call 13; (with_reducible refine (ranges_Check.calls k _ _ y137 t140 _ ?side1 ?side2 A10.out).mono ?_); (case side1 => repeat (first | exact (Kd.R_reads' HO139.out).2.2 | (with_reducible refine Kd.C_alloc ?_ _) | (with_reducible refine Kd.C_drewN ?_ _) | (with_reducible refine Kd.C_drew ?_))); (case side2 => exact (Kd.R_reads' HO139.out).2.1); rintro e w21 ⟨rfl, hb⟩; have n0_ := Aside0.mk (Kd.R_below (by (with_reducible repeat (first | apply Kd.R_alloc | apply Kd.R_drewN | apply Kd.R_drew)); exact HO128.out) hb); have n1_ := Aside0.mk (Kd.R_below (by (with_reducible repeat (first | apply Kd.R_alloc | apply Kd.R_drewN | apply Kd.R_drew)); exact HO132.out) hb); have n2_ := Aside0.mk (Kd.R_below (by (with_reducible repeat (first | apply Kd.R_alloc | apply Kd.R_drewN | apply Kd.R_drew)); exact HO139.out) hb); have n3_ := Aside0.mk (below_step (by repeat (first | (with_reducible first | exact HB.out | apply below_alloc | apply pw_below_drewN | apply below_drew1) | exact HB.out)) hb); clear HO128; clear HO132; clear HO139; clear HB; have HO128 := n0_; have HO132 := n1_; have HO139 := n2_; have HB := n3_; clear n0_ n1_ n2_ n3_; (try clear hb); (try clear hb2); (try clear hk); (try clear hi)))
              go_ret
              exact ⟨by first | rfl | (simp [errW_none, errW_some] <;> rfl) | (simp [*, errW_none, errW_some] <;> rfl), by repeat (first | (with_reducible first | exact HB.out | apply below_alloc | apply pw_below_drewN | apply below_drew1) | exact HB.out)⟩
            · replace c9 := Bool.eq_false_iff.mpr c9
              subst c9
              have H1 : (some false) = some r := by rw [if_neg (show ¬ (false = true) by decide)] at H; exact H
              clear H
              have H := H1
              clear H1
              obtain rfl := Option.some.inj H
              go_enter Try.func20, Try.ntmps20
              go_wp2_with (first | ((with_reducible refine gate_dst (N := 11) rfl ?_); (try (refine gate_guard (by rfl) ?_; dsimp only)); refine Kd.R_lit k41 _ 41 ?hg (N := 11) ?hd (xs := ([(⟨1, 97⟩ : S41), (⟨2, 98⟩ : S41), (⟨4, 99⟩ : S41)] : List (S41))) (inner := [.int .i64 1, .int .i32 97, .int .i64 2, .int .i32 98, .int .i64 4, .int .i32 99]) (ok := fun _ => True) (okp := fun _ => True) ?hr ?hp (fun _ hk => hk) trivial (Below.refl _ _) (Nat.le_refl _) (by simp) ?_; (case hd => rfl); (case hg => rfl); (case hr => first | (go_simp; done) | (go_simp; rfl)); (case hp => exact (Reps.c2 (show Kd.M k41 _ _ _ (⟨1, 97⟩ : S41) [.int .i64 1, .int .i32 97] from (k41_mkM _ _ _ (⟨1, 97⟩ : S41) )) (Reps.c2 (show Kd.M k41 _ _ _ (⟨2, 98⟩ : S41) [.int .i64 2, .int .i32 98] from (k41_mkM _ _ _ (⟨2, 98⟩ : S41) )) (Reps.c2 (show Kd.M k41 _ _ _ (⟨4, 99⟩ : S41) [.int .i64 4, .int .i32 99] from (k41_mkM _ _ _ (⟨4, 99⟩ : S41) )) (Reps.none _ _))))); intro v127 w22 ho23 hb hg_ hnew_; clear hg_ hnew_; (first | rw [← Ny126.out] at ho23 | (simp only [Int.reduceToNat] at ho23; rw [← Ny126.out] at ho23)); have n0_ := Aside0.mk (Kd.R_lower ho23 (below_size (by repeat (first | (with_reducible first | exact HB.out | apply below_alloc | apply pw_below_drewN | apply below_drew1) | exact HB.out)))); have n1_ := Aside0.mk (below_step (by repeat (first | (with_reducible first | exact HB.out | apply below_alloc | apply pw_below_drewN | apply below_drew1) | exact HB.out)) hb); clear HB; have HO128 := n0_; have HB := n1_; clear n0_ n1_; clear hb ho23; obtain ⟨Ao24, co24, eo24⟩ := Kd.R_slice HO128.out; subst eo24) | ((with_reducible refine gate_callee (f := 8) rfl ?_); refine goesL_ (some 12) rfl rfl Try.func8 (by kernel_rfl) rfl #[.slice Ao24 y126.length co24] rfl (by (try simp only [List.map_toArray, List.map_cons, List.map_nil]); first | done | rfl | (simp only [List.length_drop, List.length_take]; rfl)) ?_; (with_reducible refine (ranges_Pack.calls k _ _ y126 t129 t130 _ ?side1 ?side2 A1.out).mono ?_); (case side1 => repeat (first | exact (Kd.R_reads' HO128.out).2.2 | (with_reducible refine Kd.C_alloc ?_ _) | (with_reducible refine Kd.C_drewN ?_ _) | (with_reducible refine Kd.C_drew ?_))); (case side2 => exact (Kd.R_reads' HO128.out).2.1); rintro e w25 ⟨v131, rfl, ho0, hb⟩; refine ⟨_, rfl, ?_⟩; have n0_ := Aside0.mk (Kd.R_below (by (with_reducible repeat (first | apply Kd.R_alloc | apply Kd.R_drewN | apply Kd.R_drew)); exact HO128.out) hb); have n1_ := Aside0.mk (Kd.R_lower ho0 (below_size (by repeat (first | (with_reducible first | exact HB.out | apply below_alloc | apply pw_below_drewN | apply below_drew1) | exact HB.out)))); have n2_ := Aside0.mk (below_step (by repeat (first | (with_reducible first | exact HB.out | apply below_alloc | apply pw_below_drewN | apply below_drew1) | exact HB.out)) hb); clear HO128; clear HB; have HO128 := n0_; have HO132 := n1_; have HB := n2_; clear n0_ n1_ n2_; (try clear hb); (try clear hb2); (try clear hk); (try clear hi); (try clear ho0); obtain ⟨Ao26, co26, eo26⟩ := Kd.R_slice HO132.out; subst eo26) | ((with_reducible refine gate_callee (f := 16) rfl ?_); refine goesL_ (some 17) rfl rfl Try.func16 (by kernel_rfl) rfl #[.slice Ao26 t129.length co26, .int .i64 2] rfl (by (try simp only [List.map_toArray, List.map_cons, List.map_nil]); first | done | rfl | (simp only [List.length_drop, List.length_take]; rfl)) ?_; (with_reducible refine (ranges_Scalar.calls k _ _ t129 2 t133 true _ ?side1 ?side2 A2.out).mono ?_); (case side1 => repeat (first | exact (Kd.R_reads' HO132.out).2.2 | (with_reducible refine Kd.C_alloc ?_ _) | (with_reducible refine Kd.C_drewN ?_ _) | (with_reducible refine Kd.C_drew ?_))); (case side2 => exact (Kd.R_reads' HO132.out).2.1); rintro e w27 ⟨rfl, hb⟩; refine ⟨_, rfl, ?_⟩; have n0_ := Aside0.mk (Kd.R_below (by (with_reducible repeat (first | apply Kd.R_alloc | apply Kd.R_drewN | apply Kd.R_drew)); exact HO128.out) hb); have n1_ := Aside0.mk (Kd.R_below (by (with_reducible repeat (first | apply Kd.R_alloc | apply Kd.R_drewN | apply Kd.R_drew)); exact HO132.out) hb); have n2_ := Aside0.mk (below_step (by repeat (first | (with_reducible first | exact HB.out | apply below_alloc | apply pw_below_drewN | apply below_drew1) | exact HB.out)) hb); clear HO128; clear HO132; clear HB; have HO128 := n0_; have HO132 := n1_; have HB := n2_; clear n0_ n1_ n2_; (try clear hb); (try clear hb2); (try clear hk); (try clear hi)) | ((with_reducible refine gate_callee (f := 18) rfl ?_); refine goesL_ (some 22) rfl rfl Try.func18 (by kernel_rfl) rfl #[.slice Ao26 t129.length co26, .int .i32 99] rfl (by (try simp only [List.map_toArray, List.map_cons, List.map_nil]); first | done | rfl | (simp only [List.length_drop, List.length_take]; rfl)) ?_; (with_reducible refine (ranges_Code.calls k _ _ t129 99 t135 false _ ?side1 ?side2 A3.out).mono ?_); (case side1 => repeat (first | exact (Kd.R_reads' HO132.out).2.2 | (with_reducible refine Kd.C_alloc ?_ _) | (with_reducible refine Kd.C_drewN ?_ _) | (with_reducible refine Kd.C_drew ?_))); (case side2 => exact (Kd.R_reads' HO132.out).2.1); rintro e w28 ⟨rfl, hb⟩; refine ⟨_, rfl, ?_⟩; have n0_ := Aside0.mk (Kd.R_below (by (with_reducible repeat (first | apply Kd.R_alloc | apply Kd.R_drewN | apply Kd.R_drew)); exact HO128.out) hb); have n1_ := Aside0.mk (Kd.R_below (by (with_reducible repeat (first | apply Kd.R_alloc | apply Kd.R_drewN | apply Kd.R_drew)); exact HO132.out) hb); have n2_ := Aside0.mk (below_step (by repeat (first | (with_reducible first | exact HB.out | apply below_alloc | apply pw_below_drewN | apply below_drew1) | exact HB.out)) hb); clear HO128; clear HO132; clear HB; have HO128 := n0_; have HO132 := n1_; have HB := n2_; clear n0_ n1_ n2_; (try clear hb); (try clear hb2); (try clear hk); (try clear hi)))
              go_ret
              exact ⟨by first | rfl | (simp [errW_none, errW_some] <;> rfl) | (simp [*, errW_none, errW_some] <;> rfl), by repeat (first | (with_reducible first | exact HB.out | apply below_alloc | apply pw_below_drewN | apply below_drew1) | exact HB.out)⟩
          · rw [if_neg c8] at H
            have c8b0 : (t135 == 4) = false := beq_eq_false_iff_ne.mpr c8
            have c8b1 : (t135 != 4) = true := bne_iff_ne.mpr c8
            obtain rfl := Option.some.inj H
            go_enter Try.func20, Try.ntmps20
            go_wp2_with (first | ((with_reducible refine gate_dst (N := 11) rfl ?_); (try (refine gate_guard (by rfl) ?_; dsimp only)); refine Kd.R_lit k41 _ 41 ?hg (N := 11) ?hd (xs := ([(⟨1, 97⟩ : S41), (⟨2, 98⟩ : S41), (⟨4, 99⟩ : S41)] : List (S41))) (inner := [.int .i64 1, .int .i32 97, .int .i64 2, .int .i32 98, .int .i64 4, .int .i32 99]) (ok := fun _ => True) (okp := fun _ => True) ?hr ?hp (fun _ hk => hk) trivial (Below.refl _ _) (Nat.le_refl _) (by simp) ?_; (case hd => rfl); (case hg => rfl); (case hr => first | (go_simp; done) | (go_simp; rfl)); (case hp => exact (Reps.c2 (show Kd.M k41 _ _ _ (⟨1, 97⟩ : S41) [.int .i64 1, .int .i32 97] from (k41_mkM _ _ _ (⟨1, 97⟩ : S41) )) (Reps.c2 (show Kd.M k41 _ _ _ (⟨2, 98⟩ : S41) [.int .i64 2, .int .i32 98] from (k41_mkM _ _ _ (⟨2, 98⟩ : S41) )) (Reps.c2 (show Kd.M k41 _ _ _ (⟨4, 99⟩ : S41) [.int .i64 4, .int .i32 99] from (k41_mkM _ _ _ (⟨4, 99⟩ : S41) )) (Reps.none _ _))))); intro v127 w29 ho30 hb hg_ hnew_; clear hg_ hnew_; (first | rw [← Ny126.out] at ho30 | (simp only [Int.reduceToNat] at ho30; rw [← Ny126.out] at ho30)); have n0_ := Aside0.mk (Kd.R_lower ho30 (below_size (by repeat (first | (with_reducible first | exact HB.out | apply below_alloc | apply pw_below_drewN | apply below_drew1) | exact HB.out)))); have n1_ := Aside0.mk (below_step (by repeat (first | (with_reducible first | exact HB.out | apply below_alloc | apply pw_below_drewN | apply below_drew1) | exact HB.out)) hb); clear HB; have HO128 := n0_; have HB := n1_; clear n0_ n1_; clear hb ho30; obtain ⟨Ao31, co31, eo31⟩ := Kd.R_slice HO128.out; subst eo31) | ((with_reducible refine gate_callee (f := 8) rfl ?_); refine goesL_ (some 12) rfl rfl Try.func8 (by kernel_rfl) rfl #[.slice Ao31 y126.length co31] rfl (by (try simp only [List.map_toArray, List.map_cons, List.map_nil]); first | done | rfl | (simp only [List.length_drop, List.length_take]; rfl)) ?_; (with_reducible refine (ranges_Pack.calls k _ _ y126 t129 t130 _ ?side1 ?side2 A1.out).mono ?_); (case side1 => repeat (first | exact (Kd.R_reads' HO128.out).2.2 | (with_reducible refine Kd.C_alloc ?_ _) | (with_reducible refine Kd.C_drewN ?_ _) | (with_reducible refine Kd.C_drew ?_))); (case side2 => exact (Kd.R_reads' HO128.out).2.1); rintro e w32 ⟨v131, rfl, ho0, hb⟩; refine ⟨_, rfl, ?_⟩; have n0_ := Aside0.mk (Kd.R_below (by (with_reducible repeat (first | apply Kd.R_alloc | apply Kd.R_drewN | apply Kd.R_drew)); exact HO128.out) hb); have n1_ := Aside0.mk (Kd.R_lower ho0 (below_size (by repeat (first | (with_reducible first | exact HB.out | apply below_alloc | apply pw_below_drewN | apply below_drew1) | exact HB.out)))); have n2_ := Aside0.mk (below_step (by repeat (first | (with_reducible first | exact HB.out | apply below_alloc | apply pw_below_drewN | apply below_drew1) | exact HB.out)) hb); clear HO128; clear HB; have HO128 := n0_; have HO132 := n1_; have HB := n2_; clear n0_ n1_ n2_; (try clear hb); (try clear hb2); (try clear hk); (try clear hi); (try clear ho0); obtain ⟨Ao33, co33, eo33⟩ := Kd.R_slice HO132.out; subst eo33) | ((with_reducible refine gate_callee (f := 16) rfl ?_); refine goesL_ (some 17) rfl rfl Try.func16 (by kernel_rfl) rfl #[.slice Ao33 t129.length co33, .int .i64 2] rfl (by (try simp only [List.map_toArray, List.map_cons, List.map_nil]); first | done | rfl | (simp only [List.length_drop, List.length_take]; rfl)) ?_; (with_reducible refine (ranges_Scalar.calls k _ _ t129 2 t133 true _ ?side1 ?side2 A2.out).mono ?_); (case side1 => repeat (first | exact (Kd.R_reads' HO132.out).2.2 | (with_reducible refine Kd.C_alloc ?_ _) | (with_reducible refine Kd.C_drewN ?_ _) | (with_reducible refine Kd.C_drew ?_))); (case side2 => exact (Kd.R_reads' HO132.out).2.1); rintro e w34 ⟨rfl, hb⟩; refine ⟨_, rfl, ?_⟩; have n0_ := Aside0.mk (Kd.R_below (by (with_reducible repeat (first | apply Kd.R_alloc | apply Kd.R_drewN | apply Kd.R_drew)); exact HO128.out) hb); have n1_ := Aside0.mk (Kd.R_below (by (with_reducible repeat (first | apply Kd.R_alloc | apply Kd.R_drewN | apply Kd.R_drew)); exact HO132.out) hb); have n2_ := Aside0.mk (below_step (by repeat (first | (with_reducible first | exact HB.out | apply below_alloc | apply pw_below_drewN | apply below_drew1) | exact HB.out)) hb); clear HO128; clear HO132; clear HB; have HO128 := n0_; have HO132 := n1_; have HB := n2_; clear n0_ n1_ n2_; (try clear hb); (try clear hb2); (try clear hk); (try clear hi)) | ((with_reducible refine gate_callee (f := 18) rfl ?_); refine goesL_ (some 22) rfl rfl Try.func18 (by kernel_rfl) rfl #[.slice Ao33 t129.length co33, .int .i32 99] rfl (by (try simp only [List.map_toArray, List.map_cons, List.map_nil]); first | done | rfl | (simp only [List.length_drop, List.length_take]; rfl)) ?_; (with_reducible refine (ranges_Code.calls k _ _ t129 99 t135 t136 _ ?side1 ?side2 A3.out).mono ?_); (case side1 => repeat (first | exact (Kd.R_reads' HO132.out).2.2 | (with_reducible refine Kd.C_alloc ?_ _) | (with_reducible refine Kd.C_drewN ?_ _) | (with_reducible refine Kd.C_drew ?_))); (case side2 => exact (Kd.R_reads' HO132.out).2.1); rintro e w35 ⟨rfl, hb⟩; refine ⟨_, rfl, ?_⟩; have n0_ := Aside0.mk (Kd.R_below (by (with_reducible repeat (first | apply Kd.R_alloc | apply Kd.R_drewN | apply Kd.R_drew)); exact HO128.out) hb); have n1_ := Aside0.mk (Kd.R_below (by (with_reducible repeat (first | apply Kd.R_alloc | apply Kd.R_drewN | apply Kd.R_drew)); exact HO132.out) hb); have n2_ := Aside0.mk (below_step (by repeat (first | (with_reducible first | exact HB.out | apply below_alloc | apply pw_below_drewN | apply below_drew1) | exact HB.out)) hb); clear HO128; clear HO132; clear HB; have HO128 := n0_; have HO132 := n1_; have HB := n2_; clear n0_ n1_ n2_; (try clear hb); (try clear hb2); (try clear hk); (try clear hi)))
            go_ret
            exact ⟨by first | rfl | (simp [errW_none, errW_some] <;> rfl) | (simp [*, errW_none, errW_some] <;> rfl), by repeat (first | (with_reducible first | exact HB.out | apply below_alloc | apply pw_below_drewN | apply below_drew1) | exact HB.out)⟩
        · replace c7 := Bool.eq_false_iff.mpr c7
          subst c7
          have H1 : (some false) = some r := by rw [if_neg (show ¬ (false = true) by decide)] at H; exact H
          clear H
          have H := H1
          clear H1
          obtain rfl := Option.some.inj H
          go_enter Try.func20, Try.ntmps20
          go_wp2_with (first | ((with_reducible refine gate_dst (N := 11) rfl ?_); (try (refine gate_guard (by rfl) ?_; dsimp only)); refine Kd.R_lit k41 _ 41 ?hg (N := 11) ?hd (xs := ([(⟨1, 97⟩ : S41), (⟨2, 98⟩ : S41), (⟨4, 99⟩ : S41)] : List (S41))) (inner := [.int .i64 1, .int .i32 97, .int .i64 2, .int .i32 98, .int .i64 4, .int .i32 99]) (ok := fun _ => True) (okp := fun _ => True) ?hr ?hp (fun _ hk => hk) trivial (Below.refl _ _) (Nat.le_refl _) (by simp) ?_; (case hd => rfl); (case hg => rfl); (case hr => first | (go_simp; done) | (go_simp; rfl)); (case hp => exact (Reps.c2 (show Kd.M k41 _ _ _ (⟨1, 97⟩ : S41) [.int .i64 1, .int .i32 97] from (k41_mkM _ _ _ (⟨1, 97⟩ : S41) )) (Reps.c2 (show Kd.M k41 _ _ _ (⟨2, 98⟩ : S41) [.int .i64 2, .int .i32 98] from (k41_mkM _ _ _ (⟨2, 98⟩ : S41) )) (Reps.c2 (show Kd.M k41 _ _ _ (⟨4, 99⟩ : S41) [.int .i64 4, .int .i32 99] from (k41_mkM _ _ _ (⟨4, 99⟩ : S41) )) (Reps.none _ _))))); intro v127 w36 ho37 hb hg_ hnew_; clear hg_ hnew_; (first | rw [← Ny126.out] at ho37 | (simp only [Int.reduceToNat] at ho37; rw [← Ny126.out] at ho37)); have n0_ := Aside0.mk (Kd.R_lower ho37 (below_size (by repeat (first | (with_reducible first | exact HB.out | apply below_alloc | apply pw_below_drewN | apply below_drew1) | exact HB.out)))); have n1_ := Aside0.mk (below_step (by repeat (first | (with_reducible first | exact HB.out | apply below_alloc | apply pw_below_drewN | apply below_drew1) | exact HB.out)) hb); clear HB; have HO128 := n0_; have HB := n1_; clear n0_ n1_; clear hb ho37; obtain ⟨Ao38, co38, eo38⟩ := Kd.R_slice HO128.out; subst eo38) | ((with_reducible refine gate_callee (f := 8) rfl ?_); refine goesL_ (some 12) rfl rfl Try.func8 (by kernel_rfl) rfl #[.slice Ao38 y126.length co38] rfl (by (try simp only [List.map_toArray, List.map_cons, List.map_nil]); first | done | rfl | (simp only [List.length_drop, List.length_take]; rfl)) ?_; (with_reducible refine (ranges_Pack.calls k _ _ y126 t129 t130 _ ?side1 ?side2 A1.out).mono ?_); (case side1 => repeat (first | exact (Kd.R_reads' HO128.out).2.2 | (with_reducible refine Kd.C_alloc ?_ _) | (with_reducible refine Kd.C_drewN ?_ _) | (with_reducible refine Kd.C_drew ?_))); (case side2 => exact (Kd.R_reads' HO128.out).2.1); rintro e w39 ⟨v131, rfl, ho0, hb⟩; refine ⟨_, rfl, ?_⟩; have n0_ := Aside0.mk (Kd.R_below (by (with_reducible repeat (first | apply Kd.R_alloc | apply Kd.R_drewN | apply Kd.R_drew)); exact HO128.out) hb); have n1_ := Aside0.mk (Kd.R_lower ho0 (below_size (by repeat (first | (with_reducible first | exact HB.out | apply below_alloc | apply pw_below_drewN | apply below_drew1) | exact HB.out)))); have n2_ := Aside0.mk (below_step (by repeat (first | (with_reducible first | exact HB.out | apply below_alloc | apply pw_below_drewN | apply below_drew1) | exact HB.out)) hb); clear HO128; clear HB; have HO128 := n0_; have HO132 := n1_; have HB := n2_; clear n0_ n1_ n2_; (try clear hb); (try clear hb2); (try clear hk); (try clear hi); (try clear ho0); obtain ⟨Ao40, co40, eo40⟩ := Kd.R_slice HO132.out; subst eo40) | ((with_reducible refine gate_callee (f := 16) rfl ?_); refine goesL_ (some 17) rfl rfl Try.func16 (by kernel_rfl) rfl #[.slice Ao40 t129.length co40, .int .i64 2] rfl (by (try simp only [List.map_toArray, List.map_cons, List.map_nil]); first | done | rfl | (simp only [List.length_drop, List.length_take]; rfl)) ?_; (with_reducible refine (ranges_Scalar.calls k _ _ t129 2 t133 false _ ?side1 ?side2 A2.out).mono ?_); (case side1 => repeat (first | exact (Kd.R_reads' HO132.out).2.2 | (with_reducible refine Kd.C_alloc ?_ _) | (with_reducible refine Kd.C_drewN ?_ _) | (with_reducible refine Kd.C_drew ?_))); (case side2 => exact (Kd.R_reads' HO132.out).2.1); rintro e w41 ⟨rfl, hb⟩; refine ⟨_, rfl, ?_⟩; have n0_ := Aside0.mk (Kd.R_below (by (with_reducible repeat (first | apply Kd.R_alloc | apply Kd.R_drewN | apply Kd.R_drew)); exact HO128.out) hb); have n1_ := Aside0.mk (Kd.R_below (by (with_reducible repeat (first | apply Kd.R_alloc | apply Kd.R_drewN | apply Kd.R_drew)); exact HO132.out) hb); have n2_ := Aside0.mk (below_step (by repeat (first | (with_reducible first | exact HB.out | apply below_alloc | apply pw_below_drewN | apply below_drew1) | exact HB.out)) hb); clear HO128; clear HO132; clear HB; have HO128 := n0_; have HO132 := n1_; have HB := n2_; clear n0_ n1_ n2_; (try clear hb); (try clear hb2); (try clear hk); (try clear hi)) | ((with_reducible refine gate_callee (f := 18) rfl ?_); refine goesL_ (some 22) rfl rfl Try.func18 (by kernel_rfl) rfl #[.slice Ao40 t129.length co40, .int .i32 99] rfl (by (try simp only [List.map_toArray, List.map_cons, List.map_nil]); first | done | rfl | (simp only [List.length_drop, List.length_take]; rfl)) ?_; (with_reducible refine (ranges_Code.calls k _ _ t129 99 t135 t136 _ ?side1 ?side2 A3.out).mono ?_); (case side1 => repeat (first | exact (Kd.R_reads' HO132.out).2.2 | (with_reducible refine Kd.C_alloc ?_ _) | (with_reducible refine Kd.C_drewN ?_ _) | (with_reducible refine Kd.C_drew ?_))); (case side2 => exact (Kd.R_reads' HO132.out).2.1); rintro e w42 ⟨rfl, hb⟩; refine ⟨_, rfl, ?_⟩; have n0_ := Aside0.mk (Kd.R_below (by (with_reducible repeat (first | apply Kd.R_alloc | apply Kd.R_drewN | apply Kd.R_drew)); exact HO128.out) hb); have n1_ := Aside0.mk (Kd.R_below (by (with_reducible repeat (first | apply Kd.R_alloc | apply Kd.R_drewN | apply Kd.R_drew)); exact HO132.out) hb); have n2_ := Aside0.mk (below_step (by repeat (first | (with_reducible first | exact HB.out | apply below_alloc | apply pw_below_drewN | apply below_drew1) | exact HB.out)) hb); clear HO128; clear HO132; clear HB; have HO128 := n0_; have HO132 := n1_; have HB := n2_; clear n0_ n1_ n2_; (try clear hb); (try clear hb2); (try clear hk); (try clear hi)))
          go_ret
          exact ⟨by first | rfl | (simp [errW_none, errW_some] <;> rfl) | (simp [*, errW_none, errW_some] <;> rfl), by repeat (first | (with_reducible first | exact HB.out | apply below_alloc | apply pw_below_drewN | apply below_drew1) | exact HB.out)⟩
      · rw [if_neg c6] at H
        have c6b0 : (t133 == 98) = false := beq_eq_false_iff_ne.mpr c6
        have c6b1 : (t133 != 98) = true := bne_iff_ne.mpr c6
        obtain rfl := Option.some.inj H
        go_enter Try.func20, Try.ntmps20
        go_wp2_with (first | ((with_reducible refine gate_dst (N := 11) rfl ?_); (try (refine gate_guard (by rfl) ?_; dsimp only)); refine Kd.R_lit k41 _ 41 ?hg (N := 11) ?hd (xs := ([(⟨1, 97⟩ : S41), (⟨2, 98⟩ : S41), (⟨4, 99⟩ : S41)] : List (S41))) (inner := [.int .i64 1, .int .i32 97, .int .i64 2, .int .i32 98, .int .i64 4, .int .i32 99]) (ok := fun _ => True) (okp := fun _ => True) ?hr ?hp (fun _ hk => hk) trivial (Below.refl _ _) (Nat.le_refl _) (by simp) ?_; (case hd => rfl); (case hg => rfl); (case hr => first | (go_simp; done) | (go_simp; rfl)); (case hp => exact (Reps.c2 (show Kd.M k41 _ _ _ (⟨1, 97⟩ : S41) [.int .i64 1, .int .i32 97] from (k41_mkM _ _ _ (⟨1, 97⟩ : S41) )) (Reps.c2 (show Kd.M k41 _ _ _ (⟨2, 98⟩ : S41) [.int .i64 2, .int .i32 98] from (k41_mkM _ _ _ (⟨2, 98⟩ : S41) )) (Reps.c2 (show Kd.M k41 _ _ _ (⟨4, 99⟩ : S41) [.int .i64 4, .int .i32 99] from (k41_mkM _ _ _ (⟨4, 99⟩ : S41) )) (Reps.none _ _))))); intro v127 w43 ho44 hb hg_ hnew_; clear hg_ hnew_; (first | rw [← Ny126.out] at ho44 | (simp only [Int.reduceToNat] at ho44; rw [← Ny126.out] at ho44)); have n0_ := Aside0.mk (Kd.R_lower ho44 (below_size (by repeat (first | (with_reducible first | exact HB.out | apply below_alloc | apply pw_below_drewN | apply below_drew1) | exact HB.out)))); have n1_ := Aside0.mk (below_step (by repeat (first | (with_reducible first | exact HB.out | apply below_alloc | apply pw_below_drewN | apply below_drew1) | exact HB.out)) hb); clear HB; have HO128 := n0_; have HB := n1_; clear n0_ n1_; clear hb ho44; obtain ⟨Ao45, co45, eo45⟩ := Kd.R_slice HO128.out; subst eo45) | ((with_reducible refine gate_callee (f := 8) rfl ?_); refine goesL_ (some 12) rfl rfl Try.func8 (by kernel_rfl) rfl #[.slice Ao45 y126.length co45] rfl (by (try simp only [List.map_toArray, List.map_cons, List.map_nil]); first | done | rfl | (simp only [List.length_drop, List.length_take]; rfl)) ?_; (with_reducible refine (ranges_Pack.calls k _ _ y126 t129 t130 _ ?side1 ?side2 A1.out).mono ?_); (case side1 => repeat (first | exact (Kd.R_reads' HO128.out).2.2 | (with_reducible refine Kd.C_alloc ?_ _) | (with_reducible refine Kd.C_drewN ?_ _) | (with_reducible refine Kd.C_drew ?_))); (case side2 => exact (Kd.R_reads' HO128.out).2.1); rintro e w46 ⟨v131, rfl, ho0, hb⟩; refine ⟨_, rfl, ?_⟩; have n0_ := Aside0.mk (Kd.R_below (by (with_reducible repeat (first | apply Kd.R_alloc | apply Kd.R_drewN | apply Kd.R_drew)); exact HO128.out) hb); have n1_ := Aside0.mk (Kd.R_lower ho0 (below_size (by repeat (first | (with_reducible first | exact HB.out | apply below_alloc | apply pw_below_drewN | apply below_drew1) | exact HB.out)))); have n2_ := Aside0.mk (below_step (by repeat (first | (with_reducible first | exact HB.out | apply below_alloc | apply pw_below_drewN | apply below_drew1) | exact HB.out)) hb); clear HO128; clear HB; have HO128 := n0_; have HO132 := n1_; have HB := n2_; clear n0_ n1_ n2_; (try clear hb); (try clear hb2); (try clear hk); (try clear hi); (try clear ho0); obtain ⟨Ao47, co47, eo47⟩ := Kd.R_slice HO132.out; subst eo47) | ((with_reducible refine gate_callee (f := 16) rfl ?_); refine goesL_ (some 17) rfl rfl Try.func16 (by kernel_rfl) rfl #[.slice Ao47 t129.length co47, .int .i64 2] rfl (by (try simp only [List.map_toArray, List.map_cons, List.map_nil]); first | done | rfl | (simp only [List.length_drop, List.length_take]; rfl)) ?_; (with_reducible refine (ranges_Scalar.calls k _ _ t129 2 t133 t134 _ ?side1 ?side2 A2.out).mono ?_); (case side1 => repeat (first | exact (Kd.R_reads' HO132.out).2.2 | (with_reducible refine Kd.C_alloc ?_ _) | (with_reducible refine Kd.C_drewN ?_ _) | (with_reducible refine Kd.C_drew ?_))); (case side2 => exact (Kd.R_reads' HO132.out).2.1); rintro e w48 ⟨rfl, hb⟩; refine ⟨_, rfl, ?_⟩; have n0_ := Aside0.mk (Kd.R_below (by (with_reducible repeat (first | apply Kd.R_alloc | apply Kd.R_drewN | apply Kd.R_drew)); exact HO128.out) hb); have n1_ := Aside0.mk (Kd.R_below (by (with_reducible repeat (first | apply Kd.R_alloc | apply Kd.R_drewN | apply Kd.R_drew)); exact HO132.out) hb); have n2_ := Aside0.mk (below_step (by repeat (first | (with_reducible first | exact HB.out | apply below_alloc | apply pw_below_drewN | apply below_drew1) | exact HB.out)) hb); clear HO128; clear HO132; clear HB; have HO128 := n0_; have HO132 := n1_; have HB := n2_; clear n0_ n1_ n2_; (try clear hb); (try clear hb2); (try clear hk); (try clear hi)) | ((with_reducible refine gate_callee (f := 18) rfl ?_); refine goesL_ (some 22) rfl rfl Try.func18 (by kernel_rfl) rfl #[.slice Ao47 t129.length co47, .int .i32 99] rfl (by (try simp only [List.map_toArray, List.map_cons, List.map_nil]); first | done | rfl | (simp only [List.length_drop, List.length_take]; rfl)) ?_; (with_reducible refine (ranges_Code.calls k _ _ t129 99 t135 t136 _ ?side1 ?side2 A3.out).mono ?_); (case side1 => repeat (first | exact (Kd.R_reads' HO132.out).2.2 | (with_reducible refine Kd.C_alloc ?_ _) | (with_reducible refine Kd.C_drewN ?_ _) | (with_reducible refine Kd.C_drew ?_))); (case side2 => exact (Kd.R_reads' HO132.out).2.1); rintro e w49 ⟨rfl, hb⟩; refine ⟨_, rfl, ?_⟩; have n0_ := Aside0.mk (Kd.R_below (by (with_reducible repeat (first | apply Kd.R_alloc | apply Kd.R_drewN | apply Kd.R_drew)); exact HO128.out) hb); have n1_ := Aside0.mk (Kd.R_below (by (with_reducible repeat (first | apply Kd.R_alloc | apply Kd.R_drewN | apply Kd.R_drew)); exact HO132.out) hb); have n2_ := Aside0.mk (below_step (by repeat (first | (with_reducible first | exact HB.out | apply below_alloc | apply pw_below_drewN | apply below_drew1) | exact HB.out)) hb); clear HO128; clear HO132; clear HB; have HO128 := n0_; have HO132 := n1_; have HB := n2_; clear n0_ n1_ n2_; (try clear hb); (try clear hb2); (try clear hk); (try clear hi)))
        go_ret
        exact ⟨by first | rfl | (simp [errW_none, errW_some] <;> rfl) | (simp [*, errW_none, errW_some] <;> rfl), by repeat (first | (with_reducible first | exact HB.out | apply below_alloc | apply pw_below_drewN | apply below_drew1) | exact HB.out)⟩
    · rw [if_neg c5] at H
      have c5b0 : ((t129.length : Int) == 2) = false := beq_eq_false_iff_ne.mpr c5
      have c5b1 : ((t129.length : Int) != 2) = true := bne_iff_ne.mpr c5
      obtain rfl := Option.some.inj H
      go_enter Try.func20, Try.ntmps20
      go_wp2_with (first | ((with_reducible refine gate_dst (N := 11) rfl ?_); (try (refine gate_guard (by rfl) ?_; dsimp only)); refine Kd.R_lit k41 _ 41 ?hg (N := 11) ?hd (xs := ([(⟨1, 97⟩ : S41), (⟨2, 98⟩ : S41), (⟨4, 99⟩ : S41)] : List (S41))) (inner := [.int .i64 1, .int .i32 97, .int .i64 2, .int .i32 98, .int .i64 4, .int .i32 99]) (ok := fun _ => True) (okp := fun _ => True) ?hr ?hp (fun _ hk => hk) trivial (Below.refl _ _) (Nat.le_refl _) (by simp) ?_; (case hd => rfl); (case hg => rfl); (case hr => first | (go_simp; done) | (go_simp; rfl)); (case hp => exact (Reps.c2 (show Kd.M k41 _ _ _ (⟨1, 97⟩ : S41) [.int .i64 1, .int .i32 97] from (k41_mkM _ _ _ (⟨1, 97⟩ : S41) )) (Reps.c2 (show Kd.M k41 _ _ _ (⟨2, 98⟩ : S41) [.int .i64 2, .int .i32 98] from (k41_mkM _ _ _ (⟨2, 98⟩ : S41) )) (Reps.c2 (show Kd.M k41 _ _ _ (⟨4, 99⟩ : S41) [.int .i64 4, .int .i32 99] from (k41_mkM _ _ _ (⟨4, 99⟩ : S41) )) (Reps.none _ _))))); intro v127 w50 ho51 hb hg_ hnew_; clear hg_ hnew_; (first | rw [← Ny126.out] at ho51 | (simp only [Int.reduceToNat] at ho51; rw [← Ny126.out] at ho51)); have n0_ := Aside0.mk (Kd.R_lower ho51 (below_size (by repeat (first | (with_reducible first | exact HB.out | apply below_alloc | apply pw_below_drewN | apply below_drew1) | exact HB.out)))); have n1_ := Aside0.mk (below_step (by repeat (first | (with_reducible first | exact HB.out | apply below_alloc | apply pw_below_drewN | apply below_drew1) | exact HB.out)) hb); clear HB; have HO128 := n0_; have HB := n1_; clear n0_ n1_; clear hb ho51; obtain ⟨Ao52, co52, eo52⟩ := Kd.R_slice HO128.out; subst eo52) | ((with_reducible refine gate_callee (f := 8) rfl ?_); refine goesL_ (some 12) rfl rfl Try.func8 (by kernel_rfl) rfl #[.slice Ao52 y126.length co52] rfl (by (try simp only [List.map_toArray, List.map_cons, List.map_nil]); first | done | rfl | (simp only [List.length_drop, List.length_take]; rfl)) ?_; (with_reducible refine (ranges_Pack.calls k _ _ y126 t129 t130 _ ?side1 ?side2 A1.out).mono ?_); (case side1 => repeat (first | exact (Kd.R_reads' HO128.out).2.2 | (with_reducible refine Kd.C_alloc ?_ _) | (with_reducible refine Kd.C_drewN ?_ _) | (with_reducible refine Kd.C_drew ?_))); (case side2 => exact (Kd.R_reads' HO128.out).2.1); rintro e w53 ⟨v131, rfl, ho0, hb⟩; refine ⟨_, rfl, ?_⟩; have n0_ := Aside0.mk (Kd.R_below (by (with_reducible repeat (first | apply Kd.R_alloc | apply Kd.R_drewN | apply Kd.R_drew)); exact HO128.out) hb); have n1_ := Aside0.mk (Kd.R_lower ho0 (below_size (by repeat (first | (with_reducible first | exact HB.out | apply below_alloc | apply pw_below_drewN | apply below_drew1) | exact HB.out)))); have n2_ := Aside0.mk (below_step (by repeat (first | (with_reducible first | exact HB.out | apply below_alloc | apply pw_below_drewN | apply below_drew1) | exact HB.out)) hb); clear HO128; clear HB; have HO128 := n0_; have HO132 := n1_; have HB := n2_; clear n0_ n1_ n2_; (try clear hb); (try clear hb2); (try clear hk); (try clear hi); (try clear ho0); obtain ⟨Ao54, co54, eo54⟩ := Kd.R_slice HO132.out; subst eo54) | ((with_reducible refine gate_callee (f := 16) rfl ?_); refine goesL_ (some 17) rfl rfl Try.func16 (by kernel_rfl) rfl #[.slice Ao54 t129.length co54, .int .i64 2] rfl (by (try simp only [List.map_toArray, List.map_cons, List.map_nil]); first | done | rfl | (simp only [List.length_drop, List.length_take]; rfl)) ?_; (with_reducible refine (ranges_Scalar.calls k _ _ t129 2 t133 t134 _ ?side1 ?side2 A2.out).mono ?_); (case side1 => repeat (first | exact (Kd.R_reads' HO132.out).2.2 | (with_reducible refine Kd.C_alloc ?_ _) | (with_reducible refine Kd.C_drewN ?_ _) | (with_reducible refine Kd.C_drew ?_))); (case side2 => exact (Kd.R_reads' HO132.out).2.1); rintro e w55 ⟨rfl, hb⟩; refine ⟨_, rfl, ?_⟩; have n0_ := Aside0.mk (Kd.R_below (by (with_reducible repeat (first | apply Kd.R_alloc | apply Kd.R_drewN | apply Kd.R_drew)); exact HO128.out) hb); have n1_ := Aside0.mk (Kd.R_below (by (with_reducible repeat (first | apply Kd.R_alloc | apply Kd.R_drewN | apply Kd.R_drew)); exact HO132.out) hb); have n2_ := Aside0.mk (below_step (by repeat (first | (with_reducible first | exact HB.out | apply below_alloc | apply pw_below_drewN | apply below_drew1) | exact HB.out)) hb); clear HO128; clear HO132; clear HB; have HO128 := n0_; have HO132 := n1_; have HB := n2_; clear n0_ n1_ n2_; (try clear hb); (try clear hb2); (try clear hk); (try clear hi)) | ((with_reducible refine gate_callee (f := 18) rfl ?_); refine goesL_ (some 22) rfl rfl Try.func18 (by kernel_rfl) rfl #[.slice Ao54 t129.length co54, .int .i32 99] rfl (by (try simp only [List.map_toArray, List.map_cons, List.map_nil]); first | done | rfl | (simp only [List.length_drop, List.length_take]; rfl)) ?_; (with_reducible refine (ranges_Code.calls k _ _ t129 99 t135 t136 _ ?side1 ?side2 A3.out).mono ?_); (case side1 => repeat (first | exact (Kd.R_reads' HO132.out).2.2 | (with_reducible refine Kd.C_alloc ?_ _) | (with_reducible refine Kd.C_drewN ?_ _) | (with_reducible refine Kd.C_drew ?_))); (case side2 => exact (Kd.R_reads' HO132.out).2.1); rintro e w56 ⟨rfl, hb⟩; refine ⟨_, rfl, ?_⟩; have n0_ := Aside0.mk (Kd.R_below (by (with_reducible repeat (first | apply Kd.R_alloc | apply Kd.R_drewN | apply Kd.R_drew)); exact HO128.out) hb); have n1_ := Aside0.mk (Kd.R_below (by (with_reducible repeat (first | apply Kd.R_alloc | apply Kd.R_drewN | apply Kd.R_drew)); exact HO132.out) hb); have n2_ := Aside0.mk (below_step (by repeat (first | (with_reducible first | exact HB.out | apply below_alloc | apply pw_below_drewN | apply below_drew1) | exact HB.out)) hb); clear HO128; clear HO132; clear HB; have HO128 := n0_; have HO132 := n1_; have HB := n2_; clear n0_ n1_ n2_; (try clear hb); (try clear hb2); (try clear hk); (try clear hi)))
      go_ret
      exact ⟨by first | rfl | (simp [errW_none, errW_some] <;> rfl) | (simp [*, errW_none, errW_some] <;> rfl), by repeat (first | (with_reducible first | exact HB.out | apply below_alloc | apply pw_below_drewN | apply below_drew1) | exact HB.out)⟩
  · rw [if_neg c4] at H
    have c4b0 : (t130 == 0) = false := beq_eq_false_iff_ne.mpr c4
    have c4b1 : (t130 != 0) = true := bne_iff_ne.mpr c4
    obtain rfl := Option.some.inj H
    go_enter Try.func20, Try.ntmps20
    go_wp2_with (first | ((with_reducible refine gate_dst (N := 11) rfl ?_); (try (refine gate_guard (by rfl) ?_; dsimp only)); refine Kd.R_lit k41 _ 41 ?hg (N := 11) ?hd (xs := ([(⟨1, 97⟩ : S41), (⟨2, 98⟩ : S41), (⟨4, 99⟩ : S41)] : List (S41))) (inner := [.int .i64 1, .int .i32 97, .int .i64 2, .int .i32 98, .int .i64 4, .int .i32 99]) (ok := fun _ => True) (okp := fun _ => True) ?hr ?hp (fun _ hk => hk) trivial (Below.refl _ _) (Nat.le_refl _) (by simp) ?_; (case hd => rfl); (case hg => rfl); (case hr => first | (go_simp; done) | (go_simp; rfl)); (case hp => exact (Reps.c2 (show Kd.M k41 _ _ _ (⟨1, 97⟩ : S41) [.int .i64 1, .int .i32 97] from (k41_mkM _ _ _ (⟨1, 97⟩ : S41) )) (Reps.c2 (show Kd.M k41 _ _ _ (⟨2, 98⟩ : S41) [.int .i64 2, .int .i32 98] from (k41_mkM _ _ _ (⟨2, 98⟩ : S41) )) (Reps.c2 (show Kd.M k41 _ _ _ (⟨4, 99⟩ : S41) [.int .i64 4, .int .i32 99] from (k41_mkM _ _ _ (⟨4, 99⟩ : S41) )) (Reps.none _ _))))); intro v127 w57 ho58 hb hg_ hnew_; clear hg_ hnew_; (first | rw [← Ny126.out] at ho58 | (simp only [Int.reduceToNat] at ho58; rw [← Ny126.out] at ho58)); have n0_ := Aside0.mk (Kd.R_lower ho58 (below_size (by repeat (first | (with_reducible first | exact HB.out | apply below_alloc | apply pw_below_drewN | apply below_drew1) | exact HB.out)))); have n1_ := Aside0.mk (below_step (by repeat (first | (with_reducible first | exact HB.out | apply below_alloc | apply pw_below_drewN | apply below_drew1) | exact HB.out)) hb); clear HB; have HO128 := n0_; have HB := n1_; clear n0_ n1_; clear hb ho58; obtain ⟨Ao59, co59, eo59⟩ := Kd.R_slice HO128.out; subst eo59) | ((with_reducible refine gate_callee (f := 8) rfl ?_); refine goesL_ (some 12) rfl rfl Try.func8 (by kernel_rfl) rfl #[.slice Ao59 y126.length co59] rfl (by (try simp only [List.map_toArray, List.map_cons, List.map_nil]); first | done | rfl | (simp only [List.length_drop, List.length_take]; rfl)) ?_; (with_reducible refine (ranges_Pack.calls k _ _ y126 t129 t130 _ ?side1 ?side2 A1.out).mono ?_); (case side1 => repeat (first | exact (Kd.R_reads' HO128.out).2.2 | (with_reducible refine Kd.C_alloc ?_ _) | (with_reducible refine Kd.C_drewN ?_ _) | (with_reducible refine Kd.C_drew ?_))); (case side2 => exact (Kd.R_reads' HO128.out).2.1); rintro e w60 ⟨v131, rfl, ho0, hb⟩; refine ⟨_, rfl, ?_⟩; have n0_ := Aside0.mk (Kd.R_below (by (with_reducible repeat (first | apply Kd.R_alloc | apply Kd.R_drewN | apply Kd.R_drew)); exact HO128.out) hb); have n1_ := Aside0.mk (Kd.R_lower ho0 (below_size (by repeat (first | (with_reducible first | exact HB.out | apply below_alloc | apply pw_below_drewN | apply below_drew1) | exact HB.out)))); have n2_ := Aside0.mk (below_step (by repeat (first | (with_reducible first | exact HB.out | apply below_alloc | apply pw_below_drewN | apply below_drew1) | exact HB.out)) hb); clear HO128; clear HB; have HO128 := n0_; have HO132 := n1_; have HB := n2_; clear n0_ n1_ n2_; (try clear hb); (try clear hb2); (try clear hk); (try clear hi); (try clear ho0); obtain ⟨Ao61, co61, eo61⟩ := Kd.R_slice HO132.out; subst eo61) | ((with_reducible refine gate_callee (f := 16) rfl ?_); refine goesL_ (some 17) rfl rfl Try.func16 (by kernel_rfl) rfl #[.slice Ao61 t129.length co61, .int .i64 2] rfl (by (try simp only [List.map_toArray, List.map_cons, List.map_nil]); first | done | rfl | (simp only [List.length_drop, List.length_take]; rfl)) ?_; (with_reducible refine (ranges_Scalar.calls k _ _ t129 2 t133 t134 _ ?side1 ?side2 A2.out).mono ?_); (case side1 => repeat (first | exact (Kd.R_reads' HO132.out).2.2 | (with_reducible refine Kd.C_alloc ?_ _) | (with_reducible refine Kd.C_drewN ?_ _) | (with_reducible refine Kd.C_drew ?_))); (case side2 => exact (Kd.R_reads' HO132.out).2.1); rintro e w62 ⟨rfl, hb⟩; refine ⟨_, rfl, ?_⟩; have n0_ := Aside0.mk (Kd.R_below (by (with_reducible repeat (first | apply Kd.R_alloc | apply Kd.R_drewN | apply Kd.R_drew)); exact HO128.out) hb); have n1_ := Aside0.mk (Kd.R_below (by (with_reducible repeat (first | apply Kd.R_alloc | apply Kd.R_drewN | apply Kd.R_drew)); exact HO132.out) hb); have n2_ := Aside0.mk (below_step (by repeat (first | (with_reducible first | exact HB.out | apply below_alloc | apply pw_below_drewN | apply below_drew1) | exact HB.out)) hb); clear HO128; clear HO132; clear HB; have HO128 := n0_; have HO132 := n1_; have HB := n2_; clear n0_ n1_ n2_; (try clear hb); (try clear hb2); (try clear hk); (try clear hi)) | ((with_reducible refine gate_callee (f := 18) rfl ?_); refine goesL_ (some 22) rfl rfl Try.func18 (by kernel_rfl) rfl #[.slice Ao61 t129.length co61, .int .i32 99] rfl (by (try simp only [List.map_toArray, List.map_cons, List.map_nil]); first | done | rfl | (simp only [List.length_drop, List.length_take]; rfl)) ?_; (with_reducible refine (ranges_Code.calls k _ _ t129 99 t135 t136 _ ?side1 ?side2 A3.out).mono ?_); (case side1 => repeat (first | exact (Kd.R_reads' HO132.out).2.2 | (with_reducible refine Kd.C_alloc ?_ _) | (with_reducible refine Kd.C_drewN ?_ _) | (with_reducible refine Kd.C_drew ?_))); (case side2 => exact (Kd.R_reads' HO132.out).2.1); rintro e w63 ⟨rfl, hb⟩; refine ⟨_, rfl, ?_⟩; have n0_ := Aside0.mk (Kd.R_below (by (with_reducible repeat (first | apply Kd.R_alloc | apply Kd.R_drewN | apply Kd.R_drew)); exact HO128.out) hb); have n1_ := Aside0.mk (Kd.R_below (by (with_reducible repeat (first | apply Kd.R_alloc | apply Kd.R_drewN | apply Kd.R_drew)); exact HO132.out) hb); have n2_ := Aside0.mk (below_step (by repeat (first | (with_reducible first | exact HB.out | apply below_alloc | apply pw_below_drewN | apply below_drew1) | exact HB.out)) hb); clear HO128; clear HO132; clear HB; have HO128 := n0_; have HO132 := n1_; have HB := n2_; clear n0_ n1_ n2_; (try clear hb); (try clear hb2); (try clear hk); (try clear hi)))
    go_ret
    exact ⟨by first | rfl | (simp [errW_none, errW_some] <;> rfl) | (simp [*, errW_none, errW_some] <;> rfl), by repeat (first | (with_reducible first | exact HB.out | apply below_alloc | apply pw_below_drewN | apply below_drew1) | exact HB.out)⟩

end Go.Proofs.Ytnapldildjnchaa.PRangesOne
