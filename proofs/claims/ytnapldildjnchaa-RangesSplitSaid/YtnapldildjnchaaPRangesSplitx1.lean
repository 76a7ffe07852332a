/- RangesSplit: what the functions answer, and their walks; what is not printed is given by YtnapldildjnchaaGRangesSplit. Written by a program of ours over the print. -/
import Derived.Test.YtnapldildjnchaaPRangesSplitx0
namespace Go.Proofs.Ytnapldildjnchaa.PRangesSplit
open Go.RowKit Go.Proofs.YtnapldildjnchaaW.PrintWords Go.Proofs.YtnapldildjnchaaW.PrintLast Go.Proofs.YtnapldildjnchaaW.PrintMore
attribute [local go_sem] max2_int min2_int max_two min_two max_three min_three max_four min_four   -- for this text's walks alone
set_option linter.unusedVariables false
set_option linter.unusedSimpArgs false

/-! ### ucs_High: function 28 -/
def ucs_High.f (a0 : Int) : Option (Bool) := if a0 ≥ 55296 then (some (decide (a0 < 56320))) else (some false)
set_option maxHeartbeats 8000000 in
set_option maxRecDepth 100000 in
theorem ucs_High.calls (a0 : Int) (r : Bool) (w : World) (h : ucs_High.f a0 = some r) :
    Calls Try.prog 28 #[.int .i32 a0] w fun e w' => e = .returned (.bool r) ∧ Drawn0 w w' := by
  have H : (if a0 ≥ 55296 then (some (decide (a0 < 56320))) else (some false)) = some r := h
  clear h
  by_cases c2 : a0 ≥ 55296
  · rw [if_pos c2] at H
    have c2b0 : decide (55296 ≤ a0) = true := decide_eq_true c2
    clear c2
    obtain rfl := Option.some.inj H
    go_enter Try.func28, Try.ntmps28
    go_wp2
    go_ret
    exact ⟨by first | rfl | (simp; done) | (simp [*]; done), by repeat (first | exact Drawn0.refl _ | apply Drawn0.step)⟩
  · rw [if_neg c2] at H
    have c2b0 : decide (55296 ≤ a0) = false := decide_eq_false c2
    clear c2
    obtain rfl := Option.some.inj H
    go_enter Try.func28, Try.ntmps28
    go_wp2
    go_ret
    exact ⟨by first | rfl | (simp; done) | (simp [*]; done), by repeat (first | exact Drawn0.refl _ | apply Drawn0.step)⟩

/-! ### ucs_Low: function 29 -/
def ucs_Low.f (a0 : Int) : Option (Bool) := if a0 ≥ 56320 then (some (decide (a0 ≤ 57343))) else (some false)
set_option maxHeartbeats 8000000 in
set_option maxRecDepth 100000 in
theorem ucs_Low.calls (a0 : Int) (r : Bool) (w : World) (h : ucs_Low.f a0 = some r) :
    Calls Try.prog 29 #[.int .i32 a0] w fun e w' => e = .returned (.bool r) ∧ Drawn0 w w' := by
  have H : (if a0 ≥ 56320 then (some (decide (a0 ≤ 57343))) else (some false)) = some r := h
  clear h
  by_cases c2 : a0 ≥ 56320
  · rw [if_pos c2] at H
    have c2b0 : decide (56320 ≤ a0) = true := decide_eq_true c2
    clear c2
    obtain rfl := Option.some.inj H
    go_enter Try.func29, Try.ntmps29
    go_wp2
    go_ret
    exact ⟨by first | rfl | (simp; done) | (simp [*]; done), by repeat (first | exact Drawn0.refl _ | apply Drawn0.step)⟩
  · rw [if_neg c2] at H
    have c2b0 : decide (56320 ≤ a0) = false := decide_eq_false c2
    clear c2
    obtain rfl := Option.some.inj H
    go_enter Try.func29, Try.ntmps29
    go_wp2
    go_ret
    exact ⟨by first | rfl | (simp; done) | (simp [*]; done), by repeat (first | exact Drawn0.refl _ | apply Drawn0.step)⟩

/-! ### ucs_Scalar: function 21 -/
def ucs_Scalar.f (a0 : Int) : Option (Bool) := if a0 ≥ 0 then (if a0 ≤ 1114111 then ((ucs_High.f a0).bind fun t101 => (if t101 = true then (some false) else ((ucs_Low.f a0).bind fun t102 => (some (!t102))))) else (some false)) else (some false)
set_option maxHeartbeats 8000000 in
set_option maxRecDepth 100000 in
theorem ucs_Scalar.calls (a0 : Int) (r : Bool) (w : World) (h : ucs_Scalar.f a0 = some r) :
    Calls Try.prog 21 #[.int .i32 a0] w fun e w' => e = .returned (.bool r) ∧ Drawn0 w w' := by
  have H : (if a0 ≥ 0 then (if a0 ≤ 1114111 then ((ucs_High.f a0).bind fun t101 => (if t101 = true then (some false) else ((ucs_Low.f a0).bind fun t102 => (some (!t102))))) else (some false)) else (some false)) = some r := h
  clear h
  by_cases c2 : a0 ≥ 0
  · rw [if_pos c2] at H
    have c2b0 : decide (0 ≤ a0) = true := decide_eq_true c2
    clear c2
    by_cases c3 : a0 ≤ 1114111
    · rw [if_pos c3] at H
      have c3b0 : decide (a0 ≤ 1114111) = true := decide_eq_true c3
      clear c3
      replace H := Option.bind_eq_some_iff.mp H
      obtain ⟨t101, A40, H⟩ := H
      replace H : (if t101 = true then (some false) else ((ucs_Low.f a0).bind fun t102 => (some (!t102)))) = some r := H
      have A4 := Aside0.mk A40
      clear A40
      by_cases c5 : t101 = true
      · subst c5
        have H1 : (some false) = some r := by rw [if_pos rfl] at H; exact H
        clear H
        have H := H1
        clear H1
        obtain rfl := Option.some.inj H
        go_enter Try.func21, Try.ntmps21
        go_wp2_with (first | (go_at_call 28; (with_reducible refine (ucs_High.calls a0 true _ A4.out).mono ?_); rintro e w' ⟨rfl, ⟨nd, rfl⟩⟩))
        go_ret
        exact ⟨by first | rfl | (simp; done) | (simp [*]; done), by repeat (first | exact Drawn0.refl _ | apply Drawn0.step)⟩
      · replace c5 := Bool.eq_false_iff.mpr c5
        subst c5
        have H1 : ((ucs_Low.f a0).bind fun t102 => (some (!t102))) = some r := by rw [if_neg (show ¬ (false = true) by decide)] at H; exact H
        clear H
        have H := H1
        clear H1
        replace H := Option.bind_eq_some_iff.mp H
        obtain ⟨t102, A60, H⟩ := H
        replace H : (some (!t102)) = some r := H
        have A6 := Aside0.mk A60
        clear A60
        obtain rfl := Option.some.inj H
        go_enter Try.func21, Try.ntmps21
        go_wp2_with (first | (go_at_call 28; (with_reducible refine (ucs_High.calls a0 false _ A4.out).mono ?_); rintro e w' ⟨rfl, ⟨nd, rfl⟩⟩) | (go_at_call 29; (with_reducible refine (ucs_Low.calls a0 t102 _ A6.out).mono ?_); rintro e w' ⟨rfl, ⟨nd, rfl⟩⟩))
        go_ret
        exact ⟨by first | rfl | (simp; done) | (simp [*]; done), by repeat (first | exact Drawn0.refl _ | apply Drawn0.step)⟩
    · rw [if_neg c3] at H
      have c3b0 : decide (a0 ≤ 1114111) = false := decide_eq_false c3
      clear c3
      obtain rfl := Option.some.inj H
      go_enter Try.func21, Try.ntmps21
      go_wp2
      go_ret
      exact ⟨by first | rfl | (simp; done) | (simp [*]; done), by repeat (first | exact Drawn0.refl _ | apply Drawn0.step)⟩
  · rw [if_neg c2] at H
    have c2b0 : decide (0 ≤ a0) = false := decide_eq_false c2
    clear c2
    obtain rfl := Option.some.inj H
    go_enter Try.func21, Try.ntmps21
    go_wp2
    go_ret
    exact ⟨by first | rfl | (simp; done) | (simp [*]; done), by repeat (first | exact Drawn0.refl _ | apply Drawn0.step)⟩

/-! ### ranges_Pack: function 8 -/
mutual
def ranges_Pack.l0 : Nat → List (S44) → Int → List (S41) → Int → Int → Option ((List (S44)) × Int)
  | 0, _, _, _, _, _ => none
  | k + 1, x4, x5, x12, x13, x14 => if x14 < x13 then (if 0 ≤ x14 then (if x14 < (x12.length : Int) then (if ((rd_T41 x12 x14).f0) ≤ x5 then (ranges_Pack.j1 k x4 x5 x12 x13 x14 true ((rd_T41 x12 x14).f0) ((rd_T41 x12 x14).f1)) else (if ((rd_T41 x12 x14).f0) > 16777215 then (ranges_Pack.j1 k x4 x5 x12 x13 x14 true ((rd_T41 x12 x14).f0) ((rd_T41 x12 x14).f1)) else ((ucs_Scalar.f ((rd_T41 x12 x14).f1)).bind fun t105 => (ranges_Pack.j1 k x4 x5 x12 x13 x14 (!t105) ((rd_T41 x12 x14).f0) ((rd_T41 x12 x14).f1))))) else (none)) else (none)) else (some (x4, 0))
def ranges_Pack.j1 : Nat → List (S44) → Int → List (S41) → Int → Int → Bool → Int → Int → Option ((List (S44)) × Int)
  | 0, _, _, _, _, _, _, _, _ => none
  | k + 1, x4, x5, x12, x13, x14, x32, x105000, x105001 => if x32 = true then (some (([] : List (S44)), 3)) else (if (x4.length : Int) > 0 then (if x105000 = (wrap64 (x5 + 1)) then (if 0 ≤ (wrap64 ((x4.length : Int) - 1)) then (if (wrap64 ((x4.length : Int) - 1)) < (x4.length : Int) then (if (wrap64 ((wrap64 (x105001)) - (wrap64 ((rd_T44 x4 (wrap64 ((x4.length : Int) - 1))).f2)))) = (wrap64 (x105000 - ((rd_T44 x4 (wrap64 ((x4.length : Int) - 1))).f0))) then (ranges_Pack.l0 k (x4.set ((wrap64 ((x4.length : Int) - 1)) : Int).toNat (⟨(rd_T44 x4 (wrap64 ((x4.length : Int) - 1))).f0, x105000, (rd_T44 x4 (wrap64 ((x4.length : Int) - 1))).f2⟩ : S44)) x105000 x12 x13 (wrap64 (x14 + 1))) else (if x4.length < 5864062014805 then (ranges_Pack.l0 k (x4 ++ [(⟨x105000, x105000, x105001⟩ : S44)]) x105000 x12 x13 (wrap64 (x14 + 1))) else (none))) else (none)) else (none)) else (if x4.length < 5864062014805 then (ranges_Pack.l0 k (x4 ++ [(⟨x105000, x105000, x105001⟩ : S44)]) x105000 x12 x13 (wrap64 (x14 + 1))) else (none))) else (if x4.length < 5864062014805 then (ranges_Pack.l0 k (x4 ++ [(⟨x105000, x105000, x105001⟩ : S44)]) x105000 x12 x13 (wrap64 (x14 + 1))) else (none)))
end
def ranges_Pack.f (k : Nat) (l0 : List (S41)) : Option ((List (S44)) × Int) := if (l0.length : Int) > 65536 then (some (([] : List (S44)), 8)) else (ranges_Pack.l0 k ([] : List (S44)) (-1) l0 (l0.length : Int) 0)
theorem ranges_Pack.mono_l : ∀ k, (∀ y0 y1 y2 y3 y4, LeO (ranges_Pack.l0 k y0 y1 y2 y3 y4) (ranges_Pack.l0 (k + 1) y0 y1 y2 y3 y4)) ∧ (∀ y0 y1 y2 y3 y4 y5 y6 y7, LeO (ranges_Pack.j1 k y0 y1 y2 y3 y4 y5 y6 y7) (ranges_Pack.j1 (k + 1) y0 y1 y2 y3 y4 y5 y6 y7))
  | 0 => ⟨fun _ _ _ _ _ r h => by simp [ranges_Pack.l0] at h, fun _ _ _ _ _ _ _ _ r h => by simp [ranges_Pack.j1] at h⟩
  | k + 1 => by
    obtain ⟨ih0, ih1⟩ := ranges_Pack.mono_l k
    refine ⟨?_, ?_⟩
    · intro y0 y1 y2 y3 y4
      unfold ranges_Pack.l0
      repeat' first
      | (with_reducible exact ih0 _ _ _ _ _)
      | (with_reducible exact ih1 _ _ _ _ _ _ _ _)
      | (with_reducible exact LeO.refl _)
      | (with_reducible exact LeO.none _)
      | (with_reducible refine LeO.ite ?_ ?_)
      | (with_reducible refine LeO.bind ?_ (fun _ => ?_))
      | exact ih0 _ _ _ _ _
      | exact ih1 _ _ _ _ _ _ _ _
      | exact LeO.none _
      | refine LeO.ite ?_ ?_
      | refine LeO.bind ?_ (fun _ => ?_)
    · intro y0 y1 y2 y3 y4 y5 y6 y7
      unfold ranges_Pack.j1
      repeat' first
      | (with_reducible exact ih0 _ _ _ _ _)
      | (with_reducible exact ih1 _ _ _ _ _ _ _ _)
      | (with_reducible exact LeO.refl _)
      | (with_reducible exact LeO.none _)
      | (with_reducible refine LeO.ite ?_ ?_)
      | (with_reducible refine LeO.bind ?_ (fun _ => ?_))
      | exact ih0 _ _ _ _ _
      | exact ih1 _ _ _ _ _ _ _ _
      | exact LeO.none _
      | refine LeO.ite ?_ ?_
      | refine LeO.bind ?_ (fun _ => ?_)
theorem ranges_Pack.mono : ∀ a0 k, LeO (ranges_Pack.f k a0) (ranges_Pack.f (k + 1) a0) := by
  intro a0 k
  obtain ⟨ih0, ih1⟩ := ranges_Pack.mono_l k
  unfold ranges_Pack.f
  repeat' first
      | (with_reducible exact ih0 _ _ _ _ _)
      | (with_reducible exact ih1 _ _ _ _ _ _ _ _)
      | (with_reducible exact LeO.refl _)
      | (with_reducible exact LeO.none _)
      | (with_reducible refine LeO.ite ?_ ?_)
      | (with_reducible refine LeO.bind ?_ (fun _ => ?_))
      | exact ih0 _ _ _ _ _
      | exact ih1 _ _ _ _ _ _ _ _
      | exact LeO.none _
      | refine LeO.ite ?_ ?_
      | refine LeO.bind ?_ (fun _ => ?_)
set_option maxHeartbeats 8000000 in
set_option maxRecDepth 100000 in
theorem ranges_Pack.calls (k : Nat) (A0 : Option Addr) (c0 : Nat) (l0 : List (S41)) (r1 : List (S44)) (r2 : Int) (w : World) (hr0 : Kd.C k41 w A0 l0.length l0) (hc0 : l0.length ≤ c0) (h : ranges_Pack.f k l0 = some (r1, r2)) :
    Calls Try.prog 8 #[.slice A0 l0.length c0] w fun e w' => ∃ v0_ : Value, e = .returned (.tuple #[v0_, .int .i64 r2]) ∧ Kd.R k44 44 w' w.heap.size (fun _ => True) v0_ r1 ∧ Below w.heap.size w w' := by
  have hu41 := Try.underlying41
  have hu44 := Try.underlying44
  have HR0 := Aside0.mk hr0
  have HC0 := Aside0.mk hc0
  clear hr0 hc0
  have HB := Aside0.mk (Below.refl w.heap.size w)
  have H : (if (l0.length : Int) > 65536 then (some (([] : List (S44)), 8)) else (ranges_Pack.l0 k ([] : List (S44)) (-1) l0 (l0.length : Int) 0)) = some (r1, r2) := h
  clear h
  by_cases c2 : (l0.length : Int) > 65536
  · rw [if_pos c2] at H
    have c2b0 : decide (65536 < (l0.length : Int)) = true := decide_eq_true c2
    have c2b1 : decide (65536 < l0.length) = true := decide_eq_true (by omega)
    clear c2
    simp only [Option.some.injEq, Prod.mk.injEq] at H
    obtain ⟨rfl, rfl⟩ := H
    go_enter Try.func8, Try.ntmps8
    go_wp2
    repeat (go_quiet (fail); try go_wp2)
    go_ret2
    exact ⟨_, by first | rfl | (simp [errW_none, errW_some] <;> rfl) | (simp [*, errW_none, errW_some] <;> rfl), by first | exact Kd.R_nil _ _ _ _ _ | exact Kd.N_nil _ _ _ _ _ | exact Kd.V_nil _ _ _ _ _ | exact Kd.Q_nil _ _ _ _ _ | exact Kd.S_nil _ _ _ _ _, by repeat (first | (with_reducible first | exact HB.out | apply below_alloc | apply pw_below_drewN | apply below_drew1) | exact HB.out)⟩
  · rw [if_neg c2] at H
    have c2b0 : decide (65536 < (l0.length : Int)) = false := decide_eq_false c2
    have c2b1 : decide (65536 < l0.length) = false := decide_eq_false (by omega)
    clear c2
    have H' := Aside0.mk H
    clear H
    go_enter Try.func8, Try.ntmps8
    go_wp2
    repeat (go_quiet (fail); try go_wp2)
    go_loopg [4, 5, 14] k (fun kq v4 v5 v14 w' => ∃ (x4_1 : List (S44)) (x5_1 : Int) (x14_1 : Int), v5 = .int .i64 x5_1 ∧ v14 = .int .i64 x14_1 ∧ Aside0 (ranges_Pack.l0 kq x4_1 x5_1 l0 (l0.length : Int) x14_1 = some (r1, r2)) ∧ Aside0 (kq ≤ k) ∧ Aside0 (Kd.R k44 44 w' w.heap.size (fun _ => True) v4 x4_1) ∧ Aside0 (Below w.heap.size w w'))
    case atStart => exact ⟨(([] : List (S44))), ((-1)), (0), (by first | rfl | (simp; done) | (simp [*]; done)), (by first | rfl | (simp; done) | (simp [*]; done)), H', ⟨Nat.le_refl _⟩, ⟨by first | exact Kd.R_nil _ _ _ _ _ | exact Kd.N_nil _ _ _ _ _ | exact Kd.V_nil _ _ _ _ _ | exact Kd.Q_nil _ _ _ _ _ | exact Kd.S_nil _ _ _ _ _⟩, ⟨by repeat (first | (with_reducible first | exact HB.out | apply below_alloc | apply pw_below_drewN | apply below_drew1) | exact HB.out)⟩⟩
    case round =>
      clear H'
      try clear c2
      try clear c2b0
      try clear c2b1
      try clear p2
      obtain ⟨x4_1, x5_1, x14_1, rfl, rfl, HA, HK1, HO_4, HB⟩ := hrel
      cases gk with
      | zero => exact absurd HA.out (by simp [ranges_Pack.l0])
      | succ k1 =>
        have H := HA.out
        clear HA
        simp only [ranges_Pack.l0] at H
        by_cases c3 : x14_1 < (l0.length : Int)
        · rw [if_pos c3] at H
          have c3b0 : decide (x14_1 < (l0.length : Int)) = true := decide_eq_true c3
          clear c3
          by_cases c4 : 0 ≤ x14_1
          · rw [if_pos c4] at H
            have c4b0 : decide (0 ≤ x14_1) = true := decide_eq_true c4
            clear c4
            by_cases c5 : x14_1 < (l0.length : Int)
            · rw [if_pos c5] at H
              have c5b0 : decide (x14_1 < (l0.length : Int)) = true := decide_eq_true c5
              clear c5
              have HC6 := Aside0.mk H
              clear H
              have p103 : 0 ≤ (x14_1 : Int) := of_decide_eq_true (by first | (with_reducible assumption) | assumption)
              have q103 : x14_1 < (l0.length : Int) := of_decide_eq_true (by first | (with_reducible assumption) | assumption)
              obtain ⟨ad103, e103, hx103_0, hx103_1⟩ := at_T41 HR0.out x14_1 p103 q103
              cases e103
              replace hx103_0 := (HB.out.cell (World.block_lt_of_cell? w _ hx103_0)).trans hx103_0
              replace hx103_1 := (HB.out.cell (World.block_lt_of_cell? w _ hx103_1)).trans hx103_1
              replace p103 := eq_true p103
              replace q103 := eq_true q103
              go_upto_region 8 with (first | ((with_reducible refine gate_dst (N := 7) rfl ?_); refine box_event ?hg (N := 7) ?hd (cs := #[.int .i64 0, .int .i32 0]) (t := 41) ?hr ?_; (case hd => rfl); (case hg => rfl); (case hr => first | (go_simp; done) | (go_simp; rfl)); intro gb104 hg w7 hbox hb; have n0_ := Aside0.mk (Kd.R_below (by (with_reducible repeat (first | apply Kd.R_alloc | apply Kd.R_drewN | apply Kd.R_drew)); exact HO_4.out) hb); have n1_ := Aside0.mk (below_step (by repeat (first | (with_reducible first | exact HB.out | apply below_alloc | apply pw_below_drewN | apply below_drew1) | exact HB.out)) hb); have n2_ := Aside0.mk (hbox); have n3_ := Aside0.mk ((by rw [hg]; exact (below_size (by repeat (first | (with_reducible first | exact HB.out | apply below_alloc | apply pw_below_drewN | apply below_drew1) | exact HB.out))) : w.heap.size ≤ gb104)); have n4_ := Aside0.mk ((by rw [hg]; exact (below_size (by repeat (first | (with_reducible first | exact HB.out | apply below_alloc | apply pw_below_drewN | apply below_drew1) | exact HB.out))) : w.heap.size ≤ gb104)); clear HO_4; clear HB; have HO_4 := n0_; have HB := n1_; have BK104 := n2_; have GW104 := n3_; have GE104 := n4_; clear n0_ n1_ n2_ n3_ n4_; clear hb hbox hg; have hcz8_0 : w7.cell? ⟨gb104, 0, none⟩ = some (.int .i64 0) := (blk_cell BK104.out 0).trans rfl; have hcz8_1 : w7.cell? ⟨gb104, 1, none⟩ = some (.int .i32 0) := (blk_cell BK104.out 1).trans rfl; have hfz8_0 := blk_frozen BK104.out 0; have hfz8_1 := blk_frozen BK104.out 1))
              repeat (go_quiet (first | ((with_reducible refine gate_dst (N := 7) rfl ?_); refine box_event ?hg (N := 7) ?hd (cs := #[.int .i64 0, .int .i32 0]) (t := 41) ?hr ?_; (case hd => rfl); (case hg => rfl); (case hr => first | (go_simp; done) | (go_simp; rfl)); intro gb104 hg w7 hbox hb; have n0_ := Aside0.mk (Kd.R_below (by (with_reducible repeat (first | apply Kd.R_alloc | apply Kd.R_drewN | apply Kd.R_drew)); exact HO_4.out) hb); have n1_ := Aside0.mk (below_step (by repeat (first | (with_reducible first | exact HB.out | apply below_alloc | apply pw_below_drewN | apply below_drew1) | exact HB.out)) hb); have n2_ := Aside0.mk (hbox); have n3_ := Aside0.mk ((by rw [hg]; exact (below_size (by repeat (first | (with_reducible first | exact HB.out | apply below_alloc | apply pw_below_drewN | apply below_drew1) | exact HB.out))) : w.heap.size ≤ gb104)); have n4_ := Aside0.mk ((by rw [hg]; exact (below_size (by repeat (first | (with_reducible first | exact HB.out | apply below_alloc | apply pw_below_drewN | apply below_drew1) | exact HB.out))) : w.heap.size ≤ gb104)); clear HO_4; clear HB; have HO_4 := n0_; have HB := n1_; have BK104 := n2_; have GW104 := n3_; have GE104 := n4_; clear n0_ n1_ n2_ n3_ n4_; clear hb hbox hg; have hcz8_0 : w7.cell? ⟨gb104, 0, none⟩ = some (.int .i64 0) := (blk_cell BK104.out 0).trans rfl; have hcz8_1 : w7.cell? ⟨gb104, 1, none⟩ = some (.int .i32 0) := (blk_cell BK104.out 1).trans rfl; have hfz8_0 := blk_frozen BK104.out 0; have hfz8_1 := blk_frozen BK104.out 1)); go_upto_region 8 with (first | ((with_reducible refine gate_dst (N := 7) rfl ?_); refine box_event ?hg (N := 7) ?hd (cs := #[.int .i64 0, .int .i32 0]) (t := 41) ?hr ?_; (case hd => rfl); (case hg => rfl); (case hr => first | (go_simp; done) | (go_simp; rfl)); intro gb104 hg w7 hbox hb; have n0_ := Aside0.mk (Kd.R_below (by (with_reducible repeat (first | apply Kd.R_alloc | apply Kd.R_drewN | apply Kd.R_drew)); exact HO_4.out) hb); have n1_ := Aside0.mk (below_step (by repeat (first | (with_reducible first | exact HB.out | apply below_alloc | apply pw_below_drewN | apply below_drew1) | exact HB.out)) hb); have n2_ := Aside0.mk (hbox); have n3_ := Aside0.mk ((by rw [hg]; exact (below_size (by repeat (first | (with_reducible first | exact HB.out | apply below_alloc | apply pw_below_drewN | apply below_drew1) | exact HB.out))) : w.heap.size ≤ gb104)); have n4_ := Aside0.mk ((by rw [hg]; exact (below_size (by repeat (first | (with_reducible first | exact HB.out | apply below_alloc | apply pw_below_drewN | apply below_drew1) | exact HB.out))) : w.heap.size ≤ gb104)); clear HO_4; clear HB; have HO_4 := n0_; have HB := n1_; have BK104 := n2_; have GW104 := n3_; have GE104 := n4_; clear n0_ n1_ n2_ n3_ n4_; clear hb hbox hg; have hcz8_0 : w7.cell? ⟨gb104, 0, none⟩ = some (.int .i64 0) := (blk_cell BK104.out 0).trans rfl; have hcz8_1 : w7.cell? ⟨gb104, 1, none⟩ = some (.int .i32 0) := (blk_cell BK104.out 1).trans rfl; have hfz8_0 := blk_frozen BK104.out 0; have hfz8_1 := blk_frozen BK104.out 1)))
              (try simp only [Act.put, List.setIfInBounds_toArray, List.set_cons_zero, List.set_cons_succ])
              go_cut [32] (fun v32 wc => ∃ (kq : Nat) (x32_5 : Bool), v32 = .bool x32_5 ∧ Aside0 (ranges_Pack.j1 kq x4_1 x5_1 l0 (l0.length : Int) x14_1 x32_5 ((rd_T41 l0 x14_1).f0) ((rd_T41 l0 x14_1).f1) = some (r1, r2)) ∧ Aside0 (kq ≤ k1) ∧ Aside0 (Kd.R k44 44 wc w.heap.size (fun _ => True) u4 x4_1) ∧ Aside0 (wc.heap[gb104]? = some (.cells #[.int .i64 ((rd_T41 l0 x14_1).f0), .int .i32 ((rd_T41 l0 x14_1).f1)] 41 (0, 0))) ∧ Aside0 (Below w.heap.size w wc))
              case first =>
                have H := HC6.out
                clear HC6
                by_cases c9 : ((rd_T41 l0 x14_1).f0) ≤ x5_1
                · rw [if_pos c9] at H
                  have c9b0 : decide (((rd_T41 l0 x14_1).f0) ≤ x5_1) = true := decide_eq_true c9
                  clear c9
                  (first | rw [c9b0] | (simp only [i64_w, i32_w]; rw [c9b0]) | skip)
                  have H' := Aside0.mk H
                  clear H
                  have hcz10_0 : w7.cell? ⟨gb104, 0, none⟩ = some (.int .i64 0) := (blk_cell BK104.out 0).trans rfl
                  have hcz10_1 : w7.cell? ⟨gb104, 1, none⟩ = some (.int .i32 0) := (blk_cell BK104.out 1).trans rfl
                  have hfz10_0 := blk_frozen BK104.out 0
                  have hfz10_1 := blk_frozen BK104.out 1
                  go_wp2
                  repeat (go_quiet (fail); try go_wp2)
                  go_meet
                  case rel => exact ⟨_, (true), (by first | rfl | (simp; done) | (simp [*]; done)), H', ⟨by have := HK1.out; first | omega | exact Nat.le_refl _⟩, ⟨by (with_reducible repeat (first | apply Kd.R_alloc | apply Kd.R_drewN | apply Kd.R_drew)); exact Kd.R_mono (Kd.R_far (p := ⟨gb104, 1, none⟩) (Kd.R_far (p := ⟨gb104, 0, none⟩) (Kd.R_types HO_4.out BK104.out (by decide)) (fun _ hk => hk.2) (.int .i64 ((rd_T41 l0 x14_1).f0))) (fun _ hk => hk.2) (.int .i32 ((rd_T41 l0 x14_1).f1))) (fun _ hk => trivial)⟩, ⟨by (with_reducible repeat (first | refine blk_drewN ?_ _ | refine blk_drew ?_ | refine blk_alloc ?_ _)); refine blk_put (cs := #[.int .i64 ((rd_T41 l0 x14_1).f0), .int .i32 0]) ?_ 1 _ rfl; (with_reducible repeat (first | refine blk_drewN ?_ _ | refine blk_drew ?_ | refine blk_alloc ?_ _)); refine blk_put (cs := #[.int .i64 0, .int .i32 0]) ?_ 0 _ rfl; (with_reducible repeat (first | refine blk_drewN ?_ _ | refine blk_drew ?_ | refine blk_alloc ?_ _)); exact BK104.out⟩, ⟨by repeat (first | (with_reducible first | exact HB.out | apply below_alloc | apply pw_below_drewN | apply below_drew1 | refine below_set ?_ GE104.out) | exact HB.out)⟩⟩
                · rw [if_neg c9] at H
                  have c9b0 : decide (((rd_T41 l0 x14_1).f0) ≤ x5_1) = false := decide_eq_false c9
                  clear c9
                  (first | rw [c9b0] | (simp only [i64_w, i32_w]; rw [c9b0]) | skip)
                  by_cases c11 : ((rd_T41 l0 x14_1).f0) > 16777215
                  · rw [if_pos c11] at H
                    have c11b0 : decide (16777215 < ((rd_T41 l0 x14_1).f0)) = true := decide_eq_true c11
                    clear c11
                    have H' := Aside0.mk H
                    clear H
                    have hcz12_0 : w7.cell? ⟨gb104, 0, none⟩ = some (.int .i64 0) := (blk_cell BK104.out 0).trans rfl
                    have hcz12_1 : w7.cell? ⟨gb104, 1, none⟩ = some (.int .i32 0) := (blk_cell BK104.out 1).trans rfl
                    have hfz12_0 := blk_frozen BK104.out 0
                    have hfz12_1 := blk_frozen BK104.out 1
                    go_wp2
                    repeat (go_quiet (fail); try go_wp2)
                    go_meet
                    case rel => exact ⟨_, (true), (by first | rfl | (simp; done) | (simp [*]; done)), H', ⟨by have := HK1.out; first | omega | exact Nat.le_refl _⟩, ⟨by (with_reducible repeat (first | apply Kd.R_alloc | apply Kd.R_drewN | apply Kd.R_drew)); exact Kd.R_mono (Kd.R_far (p := ⟨gb104, 1, none⟩) (Kd.R_far (p := ⟨gb104, 0, none⟩) (Kd.R_types HO_4.out BK104.out (by decide)) (fun _ hk => hk.2) (.int .i64 ((rd_T41 l0 x14_1).f0))) (fun _ hk => hk.2) (.int .i32 ((rd_T41 l0 x14_1).f1))) (fun _ hk => trivial)⟩, ⟨by (with_reducible repeat (first | refine blk_drewN ?_ _ | refine blk_drew ?_ | refine blk_alloc ?_ _)); refine blk_put (cs := #[.int .i64 ((rd_T41 l0 x14_1).f0), .int .i32 0]) ?_ 1 _ rfl; (with_reducible repeat (first | refine blk_drewN ?_ _ | refine blk_drew ?_ | refine blk_alloc ?_ _)); refine blk_put (cs := #[.int .i64 0, .int .i32 0]) ?_ 0 _ rfl; (with_reducible repeat (first | refine blk_drewN ?_ _ | refine blk_drew ?_ | refine blk_alloc ?_ _)); exact BK104.out⟩, ⟨by repeat (first | (with_reducible first | exact HB.out | apply below_alloc | apply pw_below_drewN | apply below_drew1 | refine below_set ?_ GE104.out) | exact HB.out)⟩⟩
                  · rw [if_neg c11] at H
                    have c11b0 : decide (16777215 < ((rd_T41 l0 x14_1).f0)) = false := decide_eq_false c11
                    clear c11
                    replace H := Option.bind_eq_some_iff.mp H
                    obtain ⟨t105, A130, H⟩ := H
                    replace H : (ranges_Pack.j1 k1 x4_1 x5_1 l0 (l0.length : Int) x14_1 (!t105) ((rd_T41 l0 x14_1).f0) ((rd_T41 l0 x14_1).f1)) = some (r1, r2) := H
                    have A13 := Aside0.mk A130
                    clear A130
                    have H' := Aside0.mk H
                    clear H
                    have hcz14_0 : w7.cell? ⟨gb104, 0, none⟩ = some (.int .i64 0) := (blk_cell BK104.out 0).trans rfl
                    have hcz14_1 : w7.cell? ⟨gb104, 1, none⟩ = some (.int .i32 0) := (blk_cell BK104.out 1).trans rfl
                    have hfz14_0 := blk_frozen BK104.out 0
                    have hfz14_1 := blk_frozen BK104.out 1
                    go_wp2_with (first | (go_at_call 21; (with_reducible refine (ucs_Scalar.calls ((rd_T41 l0 x14_1).f1) t105 _ A13.out).mono ?_); rintro e w' ⟨rfl, ⟨nd, rfl⟩⟩; (try first | exact ⟨rfl, _, World.drewN_drewN _ _ _⟩ | exact ⟨rfl, _, Eq.trans (World.drewN_drewN _ _ _) (congrArg (World.drewN _) (Nat.add_assoc _ _ _))⟩)))
                    repeat (go_quiet (first | (go_at_call 21; (with_reducible refine (ucs_Scalar.calls ((rd_T41 l0 x14_1).f1) t105 _ A13.out).mono ?_); rintro e w' ⟨rfl, ⟨nd, rfl⟩⟩; (try first | exact ⟨rfl, _, World.drewN_drewN _ _ _⟩ | exact ⟨rfl, _, Eq.trans (World.drewN_drewN _ _ _) (congrArg (World.drewN _) (Nat.add_assoc _ _ _))⟩))); try go_wp2_with (first | (go_at_call 21; (with_reducible refine (ucs_Scalar.calls ((rd_T41 l0 x14_1).f1) t105 _ A13.out).mono ?_); rintro e w' ⟨rfl, ⟨nd, rfl⟩⟩; (try first | exact ⟨rfl, _, World.drewN_drewN _ _ _⟩ | exact ⟨rfl, _, Eq.trans (World.drewN_drewN _ _ _) (congrArg (World.drewN _) (Nat.add_assoc _ _ _))⟩))))
                    go_meet
                    case rel => exact ⟨_, (!t105), (by first | rfl | (simp; done) | (simp [*]; done)), H', ⟨by have := HK1.out; first | omega | exact Nat.le_refl _⟩, ⟨by (with_reducible repeat (first | apply Kd.R_alloc | apply Kd.R_drewN | apply Kd.R_drew)); exact Kd.R_mono (Kd.R_far (p := ⟨gb104, 1, none⟩) (Kd.R_far (p := ⟨gb104, 0, none⟩) (Kd.R_types HO_4.out BK104.out (by decide)) (fun _ hk => hk.2) (.int .i64 ((rd_T41 l0 x14_1).f0))) (fun _ hk => hk.2) (.int .i32 ((rd_T41 l0 x14_1).f1))) (fun _ hk => trivial)⟩, ⟨by (with_reducible repeat (first | refine blk_drewN ?_ _ | refine blk_drew ?_ | refine blk_alloc ?_ _)); refine blk_put (cs := #[.int .i64 ((rd_T41 l0 x14_1).f0), .int .i32 0]) ?_ 1 _ rfl; (with_reducible repeat (first | refine blk_drewN ?_ _ | refine blk_drew ?_ | refine blk_alloc ?_ _)); refine blk_put (cs := #[.int .i64 0, .int .i32 0]) ?_ 0 _ rfl; (with_reducible repeat (first | refine blk_drewN ?_ _ | refine blk_drew ?_ | refine blk_alloc ?_ _)); exact BK104.out⟩, ⟨by repeat (first | (with_reducible first | exact HB.out | apply below_alloc | apply pw_below_drewN | apply below_drew1 | refine below_set ?_ GE104.out) | exact HB.out)⟩⟩
              case rest =>
                clear HC6
                try clear c1
                try clear p1
                try clear q1
                try clear hx1
                try clear c2
                try clear c2b0
                try clear c2b1
                try clear p2
                try clear c3
                try clear c3b0
                try clear c4
                try clear c4b0
                try clear c5
                try clear c5b0
                try clear c8
                try clear c9
                try clear c9b0
                try clear p10
                try clear q10
                try clear hx10
                try clear c11
                try clear c11b0
                try clear hcz10_0
                try clear hcz10_1
                try clear hcz12_0
                try clear hcz12_1
                try clear hcz14_0
                try clear hcz14_1
                try clear hcz8_0
                try clear hcz8_1
                try clear hfz10_0
                try clear hfz10_1
                try clear hfz12_0
                try clear hfz12_1
                try clear hfz14_0
                try clear hfz14_1
                try clear hfz8_0
                try clear hfz8_1
                try clear hx103_0
                try clear hx103_1
                try clear p103
                try clear p2
                try clear q103
                obtain ⟨kq, x32_5, rfl, HA, HJ5, HO_4, BK104, HB⟩ := hcut
                cases kq with
                | zero => exact absurd HA.out (by simp [ranges_Pack.j1])
                | succ kj5 =>
                  have H := HA.out
                  clear HA
                  simp only [ranges_Pack.j1] at H
                  by_cases c15 : x32_5 = true
                  · subst c15
                    have H1 : (some (([] : List (S44)), 3)) = some (r1, r2) := by rw [if_pos rfl] at H; exact H
                    clear H
                    have H := H1
                    clear H1
                    simp only [Option.some.injEq, Prod.mk.injEq] at H
                    obtain ⟨rfl, rfl⟩ := H
                    go_wp2
                    repeat (go_quiet (fail); try go_wp2)
                    go_ret2
                    exact ⟨_, by first | rfl | (simp [errW_none, errW_some] <;> rfl) | (simp [*, errW_none, errW_some] <;> rfl), by first | exact Kd.R_nil _ _ _ _ _ | exact Kd.N_nil _ _ _ _ _ | exact Kd.V_nil _ _ _ _ _ | exact Kd.Q_nil _ _ _ _ _ | exact Kd.S_nil _ _ _ _ _, by repeat (first | (with_reducible first | exact HB.out | apply below_alloc | apply pw_below_drewN | apply below_drew1 | refine below_set ?_ GE104.out) | exact HB.out)⟩
                  · replace c15 := Bool.eq_false_iff.mpr c15
                    subst c15
                    have H1 : (if (x4_1.length : Int) > 0 then (if ((rd_T41 l0 x14_1).f0) = (wrap64 (x5_1 + 1)) then (if 0 ≤ (wrap64 ((x4_1.length : Int) - 1)) then (if (wrap64 ((x4_1.length : Int) - 1)) < (x4_1.length : Int) then (if (wrap64 ((wrap64 (((rd_T41 l0 x14_1).f1))) - (wrap64 ((rd_T44 x4_1 (wrap64 ((x4_1.length : Int) - 1))).f2)))) = (wrap64 (((rd_T41 l0 x14_1).f0) - ((rd_T44 x4_1 (wrap64 ((x4_1.length : Int) - 1))).f0))) then (ranges_Pack.l0 kj5 (x4_1.set ((wrap64 ((x4_1.length : Int) - 1)) : Int).toNat (⟨(rd_T44 x4_1 (wrap64 ((x4_1.length : Int) - 1))).f0, ((rd_T41 l0 x14_1).f0), (rd_T44 x4_1 (wrap64 ((x4_1.length : Int) - 1))).f2⟩ : S44)) ((rd_T41 l0 x14_1).f0) l0 (l0.length : Int) (wrap64 (x14_1 + 1))) else (if x4_1.length < 5864062014805 then (ranges_Pack.l0 kj5 (x4_1 ++ [(⟨((rd_T41 l0 x14_1).f0), ((rd_T41 l0 x14_1).f0), ((rd_T41 l0 x14_1).f1)⟩ : S44)]) ((rd_T41 l0 x14_1).f0) l0 (l0.length : Int) (wrap64 (x14_1 + 1))) else (none))) else (none)) else (none)) else (if x4_1.length < 5864062014805 then (ranges_Pack.l0 kj5 (x4_1 ++ [(⟨((rd_T41 l0 x14_1).f0), ((rd_T41 l0 x14_1).f0), ((rd_T41 l0 x14_1).f1)⟩ : S44)]) ((rd_T41 l0 x14_1).f0) l0 (l0.length : Int) (wrap64 (x14_1 + 1))) else (none))) else (if x4_1.length < 5864062014805 then (ranges_Pack.l0 kj5 (x4_1 ++ [(⟨((rd_T41 l0 x14_1).f0), ((rd_T41 l0 x14_1).f0), ((rd_T41 l0 x14_1).f1)⟩ : S44)]) ((rd_T41 l0 x14_1).f0) l0 (l0.length : Int) (wrap64 (x14_1 + 1))) else (none))) = some (r1, r2) := by rw [if_neg (show ¬ (false = true) by decide)] at H; exact H
                    clear H
                    have H := H1
                    clear H1
                    by_cases c16 : (x4_1.length : Int) > 0
                    · rw [if_pos c16] at H
                      have c16b0 : decide (0 < (x4_1.length : Int)) = true := decide_eq_true c16
                      have c16b1 : decide (0 < x4_1.length) = true := decide_eq_true (by omega)
                      clear c16
                      by_cases c17 : ((rd_T41 l0 x14_1).f0) = (wrap64 (x5_1 + 1))
                      · rw [if_pos c17] at H
                        have c17b0 : (((rd_T41 l0 x14_1).f0) == (wrap64 (x5_1 + 1))) = true := beq_iff_eq.mpr c17
                        have c17b1 : (((rd_T41 l0 x14_1).f0) != (wrap64 (x5_1 + 1))) = false := bne_eq_false_iff_eq.mpr c17
                        clear c17
                        obtain ⟨ji18, hji18⟩ : ∃ j_ : Int, (wrap64 ((x4_1.length : Int) - 1)) = j_ := ⟨_, rfl⟩
                        replace H : (if 0 ≤ (ji18) then (if (ji18) < (x4_1.length : Int) then (if (wrap64 ((wrap64 (((rd_T41 l0 x14_1).f1))) - (wrap64 ((rd_T44 x4_1 (ji18)).f2)))) = (wrap64 (((rd_T41 l0 x14_1).f0) - ((rd_T44 x4_1 (ji18)).f0))) then (ranges_Pack.l0 kj5 (x4_1.set ((ji18) : Int).toNat (⟨(rd_T44 x4_1 (ji18)).f0, ((rd_T41 l0 x14_1).f0), (rd_T44 x4_1 (ji18)).f2⟩ : S44)) ((rd_T41 l0 x14_1).f0) l0 (l0.length : Int) (wrap64 (x14_1 + 1))) else (if x4_1.length < 5864062014805 then (ranges_Pack.l0 kj5 (x4_1 ++ [(⟨((rd_T41 l0 x14_1).f0), ((rd_T41 l0 x14_1).f0), ((rd_T41 l0 x14_1).f1)⟩ : S44)]) ((rd_T41 l0 x14_1).f0) l0 (l0.length : Int) (wrap64 (x14_1 + 1))) else (none))) else (none)) else (none)) = some (r1, r2) := by first | (rw [hji18] at H; exact H) | (simp only [hji18] at H ⊢; exact H)
                        have hji18w : (IntKind.i64.wrap ((x4_1.length : Int) - 1)) = ji18 := (i64_w _).trans hji18
                        by_cases c19 : 0 ≤ (ji18)
                        · rw [if_pos c19] at H
                          have c19b0 : decide (0 ≤ (ji18)) = true := decide_eq_true c19
                          clear c19
                          by_cases c20 : (ji18) < (x4_1.length : Int)
                          · rw [if_pos c20] at H
                            have c20b0 : decide ((ji18) < (x4_1.length : Int)) = true := decide_eq_true c20
                            clear c20
                            by_cases c21 : (wrap64 ((wrap64 (((rd_T41 l0 x14_1).f1))) - (wrap64 ((rd_T44 x4_1 (ji18)).f2)))) = (wrap64 (((rd_T41 l0 x14_1).f0) - ((rd_T44 x4_1 (ji18)).f0)))
                            · rw [if_pos c21] at H
                              have c21b0 : ((wrap64 ((wrap64 (((rd_T41 l0 x14_1).f1))) - (wrap64 ((rd_T44 x4_1 (ji18)).f2)))) == (wrap64 (((rd_T41 l0 x14_1).f0) - ((rd_T44 x4_1 (ji18)).f0)))) = true := beq_iff_eq.mpr c21
                              have c21b1 : ((wrap64 ((wrap64 (((rd_T41 l0 x14_1).f1))) - (wrap64 ((rd_T44 x4_1 (ji18)).f2)))) != (wrap64 (((rd_T41 l0 x14_1).f0) - ((rd_T44 x4_1 (ji18)).f0)))) = false := bne_eq_false_iff_eq.mpr c21
                              clear c21
                              obtain ⟨y108, hy108⟩ : ∃ y_ : List (S44), y_ = (x4_1.set ((ji18) : Int).toNat (⟨(rd_T44 x4_1 (ji18)).f0, ((rd_T41 l0 x14_1).f0), (rd_T44 x4_1 (ji18)).f2⟩ : S44)) := ⟨_, rfl⟩
                              replace H : (ranges_Pack.l0 kj5 y108 ((rd_T41 l0 x14_1).f0) l0 (l0.length : Int) (wrap64 (x14_1 + 1))) = some (r1, r2) := by first | (rw [hy108]; with_reducible exact H) | (have H2_ := (Option.bind_some _ _).symm.trans H; rw [hy108]; with_reducible exact H2_) | (have H2_ := (Option.bind_some _ _).symm.trans H; with_reducible exact H2_) | with_reducible exact H | (rw [hy108]; exact H) | exact H
                              have Ny108 := Aside0.mk hy108
                              clear hy108
                              have H' := Aside0.mk H
                              clear H
                              obtain ⟨Ao23, co23, eo23⟩ := Kd.R_slice HO_4.out
                              subst eo23
                              have hcz24_0 : wc.cell? ⟨gb104, 0, none⟩ = some (.int .i64 ((rd_T41 l0 x14_1).f0)) := (blk_cell BK104.out 0).trans rfl
                              have hcz24_1 : wc.cell? ⟨gb104, 1, none⟩ = some (.int .i32 ((rd_T41 l0 x14_1).f1)) := (blk_cell BK104.out 1).trans rfl
                              have hfz24_0 := blk_frozen BK104.out 0
                              have hfz24_1 := blk_frozen BK104.out 1
                              have p106 : 0 ≤ ((ji18) : Int) := of_decide_eq_true (by first | (with_reducible assumption) | assumption)
                              have q106 : (ji18) < (x4_1.length : Int) := of_decide_eq_true (by first | (with_reducible assumption) | assumption)
                              obtain ⟨ad106, e106, hx106_0, hx106_1, hx106_2⟩ := at_T44 (Kd.R_reads' HO_4.out).2.2 (ji18) p106 q106
                              cases e106
                              replace p106 := eq_true p106
                              replace q106 := eq_true q106
                              have p107 : 0 ≤ ((ji18) : Int) := of_decide_eq_true (by first | (with_reducible assumption) | assumption)
                              have q107 : (ji18) < (x4_1.length : Int) := of_decide_eq_true (by first | (with_reducible assumption) | assumption)
                              obtain ⟨ad107, e107, hx107_0, hx107_1, hx107_2⟩ := at_T44 (Kd.R_reads' HO_4.out).2.2 (ji18) p107 q107
                              obtain rfl : ad106 = ad107 := (by injection e107)
                              replace p107 := eq_true p107
                              replace q107 := eq_true q107
                              have p22 : 0 ≤ ((ji18) : Int) := of_decide_eq_true (by first | (with_reducible assumption) | assumption)
                              have q22 : ((ji18) : Int) < ((x4_1.length : Int) : Int) := of_decide_eq_true (by first | (with_reducible assumption) | assumption)
                              obtain ⟨go22, co22, eo22, gb22, gl22, cl22, HG22⟩ := Kd.R_form HO_4.out (by omega)
                              (first | cases eo22 | (injection eo22 with ea_ en_ ec_; (first | subst ea_ | (injection ea_ with ea_; subst ea_)); subst ec_; clear en_))
                              have GB22 := Aside0.mk gb22
                              have GG22 := Aside0.mk HG22
                              clear gb22 gl22 HG22
                              (first | simp only [add_plain] at hx106_0 | skip)
                              (first | simp only [add_plain] at hx106_1 | skip)
                              (first | simp only [add_plain] at hx106_2 | skip)
                              (first | simp only [add_plain] at hx107_0 | skip)
                              (first | simp only [add_plain] at hx107_1 | skip)
                              (first | simp only [add_plain] at hx107_2 | skip)
                              obtain ⟨ce22, hcl22, hM22, hcc22, hfr22⟩ := Kd.R_elem HO_4.out z44 ((ji18) : Int) p22 q22
                              obtain rfl := k44_openM hM22
                              have hx22_0 : wc.cell? ⟨go22, ((ji18) : Int).toNat * 3, none⟩ = some (.int .i64 ((rd_T44 x4_1 (ji18)).f0)) := hcc22 0 _ rfl
                              have hx22_1 : wc.cell? ⟨go22, ((ji18) : Int).toNat * 3 + 1, none⟩ = some (.int .i64 ((rd_T44 x4_1 (ji18)).f1)) := hcc22 1 _ rfl
                              have hx22_2 : wc.cell? ⟨go22, ((ji18) : Int).toNat * 3 + 2, none⟩ = some (.int .i32 ((rd_T44 x4_1 (ji18)).f2)) := hcc22 2 _ rfl
                              have hf22_0 : wc.frozen? ⟨go22, ((ji18) : Int).toNat * 3, none⟩ = false := hfr22 0
                              have hf22_1 : wc.frozen? ⟨go22, ((ji18) : Int).toNat * 3 + 1, none⟩ = false := hfr22 1
                              have hf22_2 : wc.frozen? ⟨go22, ((ji18) : Int).toNat * 3 + 2, none⟩ = false := hfr22 2
                              clear hcl22 hcc22 hfr22 hM22
                              replace p22 := eq_true p22
                              replace q22 := eq_true q22
                              have HX25 := Aside0.mk (show Kd.R k44 44 wc w.heap.size (fun _ => True) (.slice (some ⟨go22, 0, none⟩) x4_1.length co23) x4_1 from (by (with_reducible repeat (first | apply Kd.R_alloc | apply Kd.R_drewN | apply Kd.R_drew)); exact HO_4.out))
                              obtain ⟨ce25, hcl25, hM25, hcc25, hfr25⟩ := Kd.R_elem HX25.out z44 ((ji18) : Int) (of_decide_eq_true (by first | (with_reducible assumption) | assumption)) (by have h_ : ((ji18) : Int) < ((x4_1.length : Int) : Int) := of_decide_eq_true (by first | (with_reducible assumption) | assumption); first | exact h_ | (have e_ := (Kd.R_reads' HO_4.out).1; omega) | simpa using h_)
                              obtain rfl := k44_openM hM25
                              have HP25 := Kd.R_seg HX25.out ((ji18) : Int) (of_decide_eq_true (by first | (with_reducible assumption) | assumption)) (by have h_ : ((ji18) : Int) < ((x4_1.length : Int) : Int) := of_decide_eq_true (by first | (with_reducible assumption) | assumption); first | exact h_ | (have e_ := (Kd.R_reads' HO_4.out).1; omega) | simpa using h_) (seg := [.int .i64 ((rd_T41 l0 x14_1).f0)]) (j := 1) hcl25 hcc25 (show 2 ≤ 3 from by decide) (x' := (⟨(rd_T44 x4_1 (ji18)).f0, ((rd_T41 l0 x14_1).f0), (rd_T44 x4_1 (ji18)).f2⟩ : S44)) (k44_mkM _ _ _ (⟨(rd_T44 x4_1 (ji18)).f0, ((rd_T41 l0 x14_1).f0), (rd_T44 x4_1 (ji18)).f2⟩ : S44) ) (fun _ hk => hk)
                              have hx25_1 := hcc25 1 _ rfl
                              (try simp only [show (k44).sz = 3 from rfl, Nat.mul_one, Nat.add_zero] at hx25_1)
                              have hf25_1 := hfr25 1
                              (try simp only [show (k44).sz = 3 from rfl, Nat.mul_one, Nat.add_zero] at hf25_1)
                              clear hcl25 hcc25 hfr25 hM25
                              go_wp2_with (first | ((with_reducible refine gate_store (t := 3) (p := 73) rfl ?_); (try (rw [drewN_self wc]; generalize hq_ : World.drewN wc _ = wc; have n0_ := Aside0.mk (Kd.R_at hq_ HO_4.out); have n1_ := Aside0.mk (blk_at hq_ BK104.out); have n2_ := Aside0.mk (below_at hq_ HB.out); clear hq_ HO_4 BK104 HB; have HO_4 := n0_; have BK104 := n1_; have HB := n2_; clear n0_ n1_ n2_; (try (have HX25 := Aside0.mk (show Kd.R k44 44 wc w.heap.size (fun _ => True) (.slice (some ⟨go22, 0, none⟩) x4_1.length co23) x4_1 from (by (with_reducible repeat (first | apply Kd.R_alloc | apply Kd.R_drewN | apply Kd.R_drew)); exact HO_4.out)))); (try (obtain ⟨ce25, hcl25, hM25, hcc25, hfr25⟩ := Kd.R_elem HX25.out z44 ((ji18) : Int) (of_decide_eq_true (by first | (with_reducible assumption) | assumption)) (by have h_ : ((ji18) : Int) < ((x4_1.length : Int) : Int) := of_decide_eq_true (by first | (with_reducible assumption) | assumption); first | exact h_ | (have e_ := (Kd.R_reads' HO_4.out).1; omega) | simpa using h_))); (try (obtain rfl := k44_openM hM25)); (try (have HP25 := Kd.R_seg HX25.out ((ji18) : Int) (of_decide_eq_true (by first | (with_reducible assumption) | assumption)) (by have h_ : ((ji18) : Int) < ((x4_1.length : Int) : Int) := of_decide_eq_true (by first | (with_reducible assumption) | assumption); first | exact h_ | (have e_ := (Kd.R_reads' HO_4.out).1; omega) | simpa using h_) (seg := [.int .i64 ((rd_T41 l0 x14_1).f0)]) (j := 1) hcl25 hcc25 (show 2 ≤ 3 from by decide) (x' := (⟨(rd_T44 x4_1 (ji18)).f0, ((rd_T41 l0 x14_1).f0), (rd_T44 x4_1 (ji18)).f2⟩ : S44)) (k44_mkM _ _ _ (⟨(rd_T44 x4_1 (ji18)).f0, ((rd_T41 l0 x14_1).f0), (rd_T44 x4_1 (ji18)).f2⟩ : S44) ) (fun _ hk => hk))); (try (have hx25_1 := hcc25 1 _ rfl)); (try (try simp only [show (k44).sz = 3 from rfl, Nat.mul_one, Nat.add_zero] at hx25_1)); (try (have hf25_1 := hfr25 1)); (try (try simp only [show (k44).sz = 3 from rfl, Nat.mul_one, Nat.add_zero] at hf25_1)); (try (clear hcl25 hcc25 hfr25 hM25)))); refine store_event (t := 3) (p := 73) (v := ?vo_w26) (w1 := (wc.setCell ⟨go22, ((ji18) : Int).toNat * 3 + 1, none⟩ (.int .i64 ((rd_T41 l0 x14_1).f0)))) ?hg ?ho ?hn ?hr ?_; (case ho => rfl); (case hg => rfl); (case hn => rfl); (case hr => first | (go_simp; done) | (go_simp; rfl)); intro w26 hw; have hg : wc.grownBy w26 (some go22) := (by rw [hw]; exact HP25.2); have hp_ : Kd.R k44 44 w26 w.heap.size (fun _ => True) (.slice (some ⟨go22, 0, none⟩) x4_1.length co23) y108 := (by rw [hw, Ny108.out]; exact HP25.1); clear HP25; have n0_ := Aside0.mk (hp_); have n1_ := Aside0.mk (blk_grown (g := gb104) (o := .cells #[.int .i64 ((rd_T41 l0 x14_1).f0), .int .i32 ((rd_T41 l0 x14_1).f1)] 41 (0, 0)) (by (with_reducible repeat (first | refine blk_drewN ?_ _ | refine blk_drew ?_ | refine blk_alloc ?_ _)); exact BK104.out) hg (Kd.R_ne HO_4.out BK104.out (by decide))); have n2_ := Aside0.mk ((by rw [hw]; exact below_set (HB.out) GB22.out : Below w.heap.size w w26)); clear HO_4; clear BK104; clear HB; have HO_4 := n0_; have BK104 := n1_; have HB := n2_; clear n0_ n1_ n2_; clear hg hw hp_; have hcz27_0 : w26.cell? ⟨gb104, 0, none⟩ = some (.int .i64 ((rd_T41 l0 x14_1).f0)) := (blk_cell BK104.out 0).trans rfl; have hcz27_1 : w26.cell? ⟨gb104, 1, none⟩ = some (.int .i32 ((rd_T41 l0 x14_1).f1)) := (blk_cell BK104.out 1).trans rfl; have hfz27_0 := blk_frozen BK104.out 0; have hfz27_1 := blk_frozen BK104.out 1))
                              repeat (go_quiet (first | ((with_reducible refine gate_store (t := 3) (p := 73) rfl ?_); (try (rw [drewN_self wc]; generalize hq_ : World.drewN wc _ = wc; have n0_ := Aside0.mk (Kd.R_at hq_ HO_4.out); have n1_ := Aside0.mk (blk_at hq_ BK104.out); have n2_ := Aside0.mk (below_at hq_ HB.out); clear hq_ HO_4 BK104 HB; have HO_4 := n0_; have BK104 := n1_; have HB := n2_; clear n0_ n1_ n2_; (try (have HX25 := Aside0.mk (show Kd.R k44 44 wc w.heap.size (fun _ => True) (.slice (some ⟨go22, 0, none⟩) x4_1.length co23) x4_1 from (by (with_reducible repeat (first | apply Kd.R_alloc | apply Kd.R_drewN | apply Kd.R_drew)); exact HO_4.out)))); (try (obtain ⟨ce25, hcl25, hM25, hcc25, hfr25⟩ := Kd.R_elem HX25.out z44 ((ji18) : Int) (of_decide_eq_true (by first | (with_reducible assumption) | assumption)) (by have h_ : ((ji18) : Int) < ((x4_1.length : Int) : Int) := of_decide_eq_true (by first | (with_reducible assumption) | assumption); first | exact h_ | (have e_ := (Kd.R_reads' HO_4.out).1; omega) | simpa using h_))); (try (obtain rfl := k44_openM hM25)); (try (have HP25 := Kd.R_seg HX25.out ((ji18) : Int) (of_decide_eq_true (by first | (with_reducible assumption) | assumption)) (by have h_ : ((ji18) : Int) < ((x4_1.length : Int) : Int) := of_decide_eq_true (by first | (with_reducible assumption) | assumption); first | exact h_ | (have e_ := (Kd.R_reads' HO_4.out).1; omega) | simpa using h_) (seg := [.int .i64 ((rd_T41 l0 x14_1).f0)]) (j := 1) hcl25 hcc25 (show 2 ≤ 3 from by decide) (x' := (⟨(rd_T44 x4_1 (ji18)).f0, ((rd_T41 l0 x14_1).f0), (rd_T44 x4_1 (ji18)).f2⟩ : S44)) (k44_mkM _ _ _ (⟨(rd_T44 x4_1 (ji18)).f0, ((rd_T41 l0 x14_1).f0), (rd_T44 x4_1 (ji18)).f2⟩ : S44) ) (fun _ hk => hk))); (try (have hx25_1 := hcc25 1 _ rfl)); (try (try simp only [show (k44).sz = 3 from rfl, Nat.mul_one, Nat.add_zero] at hx25_1)); (try (have hf25_1 := hfr25 1)); (try (try simp only [show (k44).sz = 3 from rfl, Nat.mul_one, Nat.add_zero] at hf25_1)); (try (clear hcl25 hcc25 hfr25 hM25)))); refine store_event (t := 3) (p := 73) (v := ?vo_w26) (w1 := (wc.setCell ⟨go22, ((ji18) : Int).toNat * 3 + 1, none⟩ (.int .i64 ((rd_T41 l0 x14_1).f0)))) ?hg ?ho ?hn ?hr ?_; (case ho => rfl); (case hg => rfl); (case hn => rfl); (case hr => first | (go_simp; done) | (go_simp; rfl)); intro w26 hw; have hg : wc.grownBy w26 (some go22) := (by rw [hw]; exact HP25.2); have hp_ : Kd.R k44 44 w26 w.heap.size (fun _ => True) (.slice (some ⟨go22, 0, none⟩) x4_1.length co23) y108 := (by rw [hw, Ny108.out]; exact HP25.1); clear HP25; have n0_ := Aside0.mk (hp_); have n1_ := Aside0.mk (blk_grown (g := gb104) (o := .cells #[.int .i64 ((rd_T41 l0 x14_1).f0), .int .i32 ((rd_T41 l0 x14_1).f1)] 41 (0, 0)) (by (with_reducible repeat (first | refine blk_drewN ?_ _ | refine blk_drew ?_ | refine blk_alloc ?_ _)); exact BK104.out) hg (Kd.R_ne HO_4.out BK104.out (by decide))); have n2_ := Aside0.mk ((by rw [hw]; exact below_set (HB.out) GB22.out : Below w.heap.size w w26)); clear HO_4; clear BK104; clear HB; have HO_4 := n0_; have BK104 := n1_; have HB := n2_; clear n0_ n1_ n2_; clear hg hw hp_; have hcz27_0 : w26.cell? ⟨gb104, 0, none⟩ = some (.int .i64 ((rd_T41 l0 x14_1).f0)) := (blk_cell BK104.out 0).trans rfl; have hcz27_1 : w26.cell? ⟨gb104, 1, none⟩ = some (.int .i32 ((rd_T41 l0 x14_1).f1)) := (blk_cell BK104.out 1).trans rfl; have hfz27_0 := blk_frozen BK104.out 0; have hfz27_1 := blk_frozen BK104.out 1)); try go_wp2_with (first | ((with_reducible refine gate_store (t := 3) (p := 73) rfl ?_); (try (rw [drewN_self wc]; generalize hq_ : World.drewN wc _ = wc; have n0_ := Aside0.mk (Kd.R_at hq_ HO_4.out); have n1_ := Aside0.mk (blk_at hq_ BK104.out); have n2_ := Aside0.mk (below_at hq_ HB.out); clear hq_ HO_4 BK104 HB; have HO_4 := n0_; have BK104 := n1_; have HB := n2_; clear n0_ n1_ n2_; (try (have HX25 := Aside0.mk (show Kd.R k44 44 wc w.heap.size (fun _ => True) (.slice (some ⟨go22, 0, none⟩) x4_1.length co23) x4_1 from (by (with_reducible repeat (first | apply Kd.R_alloc | apply Kd.R_drewN | apply Kd.R_drew)); exact HO_4.out)))); (try (obtain ⟨ce25, hcl25, hM25, hcc25, hfr25⟩ := Kd.R_elem HX25.out z44 ((ji18) : Int) (of_decide_eq_true (by first | (with_reducible assumption) | assumption)) (by have h_ : ((ji18) : Int) < ((x4_1.length : Int) : Int) := of_decide_eq_true (by first | (with_reducible assumption) | assumption); first | exact h_ | (have e_ := (Kd.R_reads' HO_4.out).1; omega) | simpa using h_))); (try (obtain rfl := k44_openM hM25)); (try (have HP25 := Kd.R_seg HX25.out ((ji18) : Int) (of_decide_eq_true (by first | (with_reducible assumption) | assumption)) (by have h_ : ((ji18) : Int) < ((x4_1.length : Int) : Int) := of_decide_eq_true (by first | (with_reducible assumption) | assumption); first | exact h_ | (have e_ := (Kd.R_reads' HO_4.out).1; omega) | simpa using h_) (seg := [.int .i64 ((rd_T41 l0 x14_1).f0)]) (j := 1) hcl25 hcc25 (show 2 ≤ 3 from by decide) (x' := (⟨(rd_T44 x4_1 (ji18)).f0, ((rd_T41 l0 x14_1).f0), (rd_T44 x4_1 (ji18)).f2⟩ : S44)) (k44_mkM _ _ _ (⟨(rd_T44 x4_1 (ji18)).f0, ((rd_T41 l0 x14_1).f0), (rd_T44 x4_1 (ji18)).f2⟩ : S44) ) (fun _ hk => hk))); (try (have hx25_1 := hcc25 1 _ rfl)); (try (try simp only [show (k44).sz = 3 from rfl, Nat.mul_one, Nat.add_zero] at hx25_1)); (try (have hf25_1 := hfr25 1)); (try (try simp only [show (k44).sz = 3 from rfl, Nat.mul_one, Nat.add_zero] at hf25_1)); (try (clear hcl25 hcc25 hfr25 hM25)))); refine store_event (t := 3) (p := 73) (v := ?vo_w26) (w1 := (wc.setCell ⟨go22, ((ji18) : Int).toNat * 3 + 1, none⟩ (.int .i64 ((rd_T41 l0 x14_1).f0)))) ?hg ?ho ?hn ?hr ?_; (case ho => rfl); (case hg => rfl); (case hn => rfl); (case hr => first | (go_simp; done) | (go_simp; rfl)); intro w26 hw; have hg : wc.grownBy w26 (some go22) := (by rw [hw]; exact HP25.2); have hp_ : Kd.R k44 44 w26 w.heap.size (fun _ => True) (.slice (some ⟨go22, 0, none⟩) x4_1.length co23) y108 := (by rw [hw, Ny108.out]; exact HP25.1); clear HP25; have n0_ := Aside0.mk (hp_); have n1_ := Aside0.mk (blk_grown (g := gb104) (o := .cells #[.int .i64 ((rd_T41 l0 x14_1).f0), .int .i32 ((rd_T41 l0 x14_1).f1)] 41 (0, 0)) (by (with_reducible repeat (first | refine blk_drewN ?_ _ | refine blk_drew ?_ | refine blk_alloc ?_ _)); exact BK104.out) hg (Kd.R_ne HO_4.out BK104.out (by decide))); have n2_ := Aside0.mk ((by rw [hw]; exact below_set (HB.out) GB22.out : Below w.heap.size w w26)); clear HO_4; clear BK104; clear HB; have HO_4 := n0_; have BK104 := n1_; have HB := n2_; clear n0_ n1_ n2_; clear hg hw hp_; have hcz27_0 : w26.cell? ⟨gb104, 0, none⟩ = some (.int .i64 ((rd_T41 l0 x14_1).f0)) := (blk_cell BK104.out 0).trans rfl; have hcz27_1 : w26.cell? ⟨gb104, 1, none⟩ = some (.int .i32 ((rd_T41 l0 x14_1).f1)) := (blk_cell BK104.out 1).trans rfl; have hfz27_0 := blk_frozen BK104.out 0; have hfz27_1 := blk_frozen BK104.out 1)))
                              go_roundg kj5
                              case measure => have := HK1.out; have := HJ5.out; omega
                              case rel => exact ⟨(y108), (((rd_T41 l0 x14_1).f0)), (wrap64 (x14_1 + 1)), (by first | rfl | (simp; done) | (simp [*]; done)), (by first | rfl | (simp; done) | (simp [*]; done)), H', ⟨by have := HK1.out; have := HJ5.out; omega⟩, ⟨by (with_reducible repeat (first | apply Kd.R_alloc | apply Kd.R_drewN | apply Kd.R_drew)); exact HO_4.out⟩, ⟨by repeat (first | (with_reducible first | exact HB.out | apply below_alloc | apply pw_below_drewN | apply below_drew1 | refine below_set ?_ GE104.out) | exact HB.out)⟩⟩
                            · rw [if_neg c21] at H
                              have c21b0 : ((wrap64 ((wrap64 (((rd_T41 l0 x14_1).f1))) - (wrap64 ((rd_T44 x4_1 (ji18)).f2)))) == (wrap64 (((rd_T41 l0 x14_1).f0) - ((rd_T44 x4_1 (ji18)).f0)))) = false := beq_eq_false_iff_ne.mpr c21
                              have c21b1 : ((wrap64 ((wrap64 (((rd_T41 l0 x14_1).f1))) - (wrap64 ((rd_T44 x4_1 (ji18)).f2)))) != (wrap64 (((rd_T41 l0 x14_1).f0) - ((rd_T44 x4_1 (ji18)).f0)))) = true := bne_iff_ne.mpr c21
                              by_cases c28 : x4_1.length < 5864062014805
                              · rw [if_pos c28] at H
                                have LMc28 := Aside0.mk c28
                                clear c28
                                obtain ⟨y109, hy109⟩ : ∃ y_ : List (S44), y_ = (x4_1 ++ [(⟨((rd_T41 l0 x14_1).f0), ((rd_T41 l0 x14_1).f0), ((rd_T41 l0 x14_1).f1)⟩ : S44)]) := ⟨_, rfl⟩
                                replace H : (ranges_Pack.l0 kj5 y109 ((rd_T41 l0 x14_1).f0) l0 (l0.length : Int) (wrap64 (x14_1 + 1))) = some (r1, r2) := by first | (rw [hy109]; with_reducible exact H) | (have H2_ := (Option.bind_some _ _).symm.trans H; rw [hy109]; with_reducible exact H2_) | (have H2_ := (Option.bind_some _ _).symm.trans H; with_reducible exact H2_) | with_reducible exact H | (rw [hy109]; exact H) | exact H
                                have Ny109 := Aside0.mk hy109
                                clear hy109
                                have H' := Aside0.mk H
                                clear H
                                obtain ⟨Ao29, co29, eo29⟩ := Kd.R_slice HO_4.out
                                subst eo29
                                have hcz30_0 : wc.cell? ⟨gb104, 0, none⟩ = some (.int .i64 ((rd_T41 l0 x14_1).f0)) := (blk_cell BK104.out 0).trans rfl
                                have hcz30_1 : wc.cell? ⟨gb104, 1, none⟩ = some (.int .i32 ((rd_T41 l0 x14_1).f1)) := (blk_cell BK104.out 1).trans rfl
                                have hfz30_0 := blk_frozen BK104.out 0
                                have hfz30_1 := blk_frozen BK104.out 1
                                have p106 : 0 ≤ ((ji18) : Int) := of_decide_eq_true (by first | (with_reducible assumption) | assumption)
                                have q106 : (ji18) < (x4_1.length : Int) := of_decide_eq_true (by first | (with_reducible assumption) | assumption)
                                obtain ⟨ad106, e106, hx106_0, hx106_1, hx106_2⟩ := at_T44 (Kd.R_reads' HO_4.out).2.2 (ji18) p106 q106
                                cases e106
                                replace p106 := eq_true p106
                                replace q106 := eq_true q106
                                have p107 : 0 ≤ ((ji18) : Int) := of_decide_eq_true (by first | (with_reducible assumption) | assumption)
                                have q107 : (ji18) < (x4_1.length : Int) := of_decide_eq_true (by first | (with_reducible assumption) | assumption)
                                obtain ⟨ad107, e107, hx107_0, hx107_1, hx107_2⟩ := at_T44 (Kd.R_reads' HO_4.out).2.2 (ji18) p107 q107
                                obtain rfl : ad106 = ad107 := (by injection e107)
                                replace p107 := eq_true p107
                                replace q107 := eq_true q107
                                go_wp2_with (first | ((with_reducible refine gate_builtin (b := .append) (xs := #[.tmp 74, .tmp 82]) rfl ?_); at_builtin; refine Kd.R_append k44 (w0 := w) w.heap.size rfl (.tmp 74) (.tmp 82) 23 44 (.agg #[(.int .i64 0), (.int .i64 0), (.int .i32 0)]) 24 rfl Try.underlying23 info44 rfl (by decide) (by omega) (.slice (some ad106) x4_1.length co29) x4_1 (⟨((rd_T41 l0 x14_1).f0), ((rd_T41 l0 x14_1).f0), ((rd_T41 l0 x14_1).f1)⟩ : S44) [.int .i64 ((rd_T41 l0 x14_1).f0), .int .i64 ((rd_T41 l0 x14_1).f0), .int .i32 ((rd_T41 l0 x14_1).f1)] (fun _ => True) (fun _ => False) rfl rfl ?aP (fun _ hk => hk.elim) ?aF ?aO ?aB ?aS ?aL ?_; (case aP => exact k44_mkM _ _ _ (⟨((rd_T41 l0 x14_1).f0), ((rd_T41 l0 x14_1).f0), ((rd_T41 l0 x14_1).f1)⟩ : S44)); (case aB => exact (by repeat (first | (with_reducible first | exact HB.out | apply below_alloc | apply pw_below_drewN | apply below_drew1 | refine below_set ?_ GE104.out) | exact HB.out))); (case aF => exact (fun _ _ => trivial)); (case aO => exact (by (with_reducible repeat (first | apply Kd.R_alloc | apply Kd.R_drewN | apply Kd.R_drew)); exact HO_4.out)); (case aS => exact (below_size (by repeat (first | (with_reducible first | exact HB.out | apply below_alloc | apply pw_below_drewN | apply below_drew1 | refine below_set ?_ GE104.out) | exact HB.out)))); (case aL => have := LMc28.out; omega); intro v110 w31 ho hb hg hat; rw [← Ny109.out] at ho; have n0_ := Aside0.mk (blk_grown (g := gb104) (o := .cells #[.int .i64 ((rd_T41 l0 x14_1).f0), .int .i32 ((rd_T41 l0 x14_1).f1)] 41 (0, 0)) (by (with_reducible repeat (first | refine blk_drewN ?_ _ | refine blk_drew ?_ | refine blk_alloc ?_ _)); exact BK104.out) hg (Kd.R_ne HO_4.out BK104.out (by decide))); have n1_ := Aside0.mk (hb); have n2_ := Aside0.mk (ho); clear BK104; clear HB; clear HO_4; have BK104 := n0_; have HB := n1_; have HO111 := n2_; clear n0_ n1_ n2_; clear ho hb hg hat; have hcz32_0 : w31.cell? ⟨gb104, 0, none⟩ = some (.int .i64 ((rd_T41 l0 x14_1).f0)) := (blk_cell BK104.out 0).trans rfl; have hcz32_1 : w31.cell? ⟨gb104, 1, none⟩ = some (.int .i32 ((rd_T41 l0 x14_1).f1)) := (blk_cell BK104.out 1).trans rfl; have hfz32_0 := blk_frozen BK104.out 0; have hfz32_1 := blk_frozen BK104.out 1))
                                repeat (go_quiet (first | ((with_reducible refine gate_builtin (b := .append) (xs := #[.tmp 74, .tmp 82]) rfl ?_); at_builtin; refine Kd.R_append k44 (w0 := w) w.heap.size rfl (.tmp 74) (.tmp 82) 23 44 (.agg #[(.int .i64 0), (.int .i64 0), (.int .i32 0)]) 24 rfl Try.underlying23 info44 rfl (by decide) (by omega) (.slice (some ad106) x4_1.length co29) x4_1 (⟨((rd_T41 l0 x14_1).f0), ((rd_T41 l0 x14_1).f0), ((rd_T41 l0 x14_1).f1)⟩ : S44) [.int .i64 ((rd_T41 l0 x14_1).f0), .int .i64 ((rd_T41 l0 x14_1).f0), .int .i32 ((rd_T41 l0 x14_1).f1)] (fun _ => True) (fun _ => False) rfl rfl ?aP (fun _ hk => hk.elim) ?aF ?aO ?aB ?aS ?aL ?_; (case aP => exact k44_mkM _ _ _ (⟨((rd_T41 l0 x14_1).f0), ((rd_T41 l0 x14_1).f0), ((rd_T41 l0 x14_1).f1)⟩ : S44)); (case aB => exact (by repeat (first | (with_reducible first | exact HB.out | apply below_alloc | apply pw_below_drewN | apply below_drew1 | refine below_set ?_ GE104.out) | exact HB.out))); (case aF => exact (fun _ _ => trivial)); (case aO => exact (by (with_reducible repeat (first | apply Kd.R_alloc | apply Kd.R_drewN | apply Kd.R_drew)); exact HO_4.out)); (case aS => exact (below_size (by repeat (first | (with_reducible first | exact HB.out | apply below_alloc | apply pw_below_drewN | apply below_drew1 | refine below_set ?_ GE104.out) | exact HB.out)))); (case aL => have := LMc28.out; omega); intro v110 w31 ho hb hg hat; rw [← Ny109.out] at ho; have n0_ := Aside0.mk (blk_grown (g := gb104) (o := .cells #[.int .i64 ((rd_T41 l0 x14_1).f0), .int .i32 ((rd_T41 l0 x14_1).f1)] 41 (0, 0)) (by (with_reducible repeat (first | refine blk_drewN ?_ _ | refine blk_drew ?_ | refine blk_alloc ?_ _)); exact BK104.out) hg (Kd.R_ne HO_4.out BK104.out (by decide))); have n1_ := Aside0.mk (hb); have n2_ := Aside0.mk (ho); clear BK104; clear HB; clear HO_4; have BK104 := n0_; have HB := n1_; have HO111 := n2_; clear n0_ n1_ n2_; clear ho hb hg hat; have hcz32_0 : w31.cell? ⟨gb104, 0, none⟩ = some (.int .i64 ((rd_T41 l0 x14_1).f0)) := (blk_cell BK104.out 0).trans rfl; have hcz32_1 : w31.cell? ⟨gb104, 1, none⟩ = some (.int .i32 ((rd_T41 l0 x14_1).f1)) := (blk_cell BK104.out 1).trans rfl; have hfz32_0 := blk_frozen BK104.out 0; have hfz32_1 := blk_frozen BK104.out 1)); try go_wp2_with (first | ((with_reducible refine gate_builtin (b := .append) (xs := #[.tmp 74, .tmp 82]) rfl ?_); at_builtin; refine Kd.R_append k44 (w0 := w) w.heap.size rfl (.tmp 74) (.tmp 82) 23 44 (.agg #[(.int .i64 0), (.int .i64 0), (.int .i32 0)]) 24 rfl Try.underlying23 info44 rfl (by decide) (by omega) (.slice (some ad106) x4_1.length co29) x4_1 (⟨((rd_T41 l0 x14_1).f0), ((rd_T41 l0 x14_1).f0), ((rd_T41 l0 x14_1).f1)⟩ : S44) [.int .i64 ((rd_T41 l0 x14_1).f0), .int .i64 ((rd_T41 l0 x14_1).f0), .int .i32 ((rd_T41 l0 x14_1).f1)] (fun _ => True) (fun _ => False) rfl rfl ?aP (fun _ hk => hk.elim) ?aF ?aO ?aB ?aS ?aL ?_; (case aP => exact k44_mkM _ _ _ (⟨((rd_T41 l0 x14_1).f0), ((rd_T41 l0 x14_1).f0), ((rd_T41 l0 x14_1).f1)⟩ : S44)); (case aB => exact (by repeat (first | (with_reducible first | exact HB.out | apply below_alloc | apply pw_below_drewN | apply below_drew1 | refine below_set ?_ GE104.out) | exact HB.out))); (case aF => exact (fun _ _ => trivial)); (case aO => exact (by (with_reducible repeat (first | apply Kd.R_alloc | apply Kd.R_drewN | apply Kd.R_drew)); exact HO_4.out)); (case aS => exact (below_size (by repeat (first | (with_reducible first | exact HB.out | apply below_alloc | apply pw_below_drewN | apply below_drew1 | refine below_set ?_ GE104.out) | exact HB.out)))); (case aL => have := LMc28.out; omega); intro v110 w31 ho hb hg hat; rw [← Ny109.out] at ho; have n0_ := Aside0.mk (blk_grown (g := gb104) (o := .cells #[.int .i64 ((rd_T41 l0 x14_1).f0), .int .i32 ((rd_T41 l0 x14_1).f1)] 41 (0, 0)) (by (with_reducible repeat (first | refine blk_drewN ?_ _ | refine blk_drew ?_ | refine blk_alloc ?_ _)); exact BK104.out) hg (Kd.R_ne HO_4.out BK104.out (by decide))); have n1_ := Aside0.mk (hb); have n2_ := Aside0.mk (ho); clear BK104; clear HB; clear HO_4; have BK104 := n0_; have HB := n1_; have HO111 := n2_; clear n0_ n1_ n2_; clear ho hb hg hat; have hcz32_0 : w31.cell? ⟨gb104, 0, none⟩ = some (.int .i64 ((rd_T41 l0 x14_1).f0)) := (blk_cell BK104.out 0).trans rfl; have hcz32_1 : w31.cell? ⟨gb104, 1, none⟩ = some (.int .i32 ((rd_T41 l0 x14_1).f1)) := (blk_cell BK104.out 1).trans rfl; have hfz32_0 := blk_frozen BK104.out 0; have hfz32_1 := blk_frozen BK104.out 1)))
                                go_roundg kj5
                                case measure => have := HK1.out; have := HJ5.out; omega
                                case rel => exact ⟨(y109), (((rd_T41 l0 x14_1).f0)), (wrap64 (x14_1 + 1)), (by first | rfl | (simp; done) | (simp [*]; done)), (by first | rfl | (simp; done) | (simp [*]; done)), H', ⟨by have := HK1.out; have := HJ5.out; omega⟩, ⟨by (with_reducible repeat (first | apply Kd.R_alloc | apply Kd.R_drewN | apply Kd.R_drew)); exact HO111.out⟩, ⟨by repeat (first | (with_reducible first | exact HB.out | apply below_alloc | apply pw_below_drewN | apply below_drew1 | refine below_set ?_ GE104.out) | exact HB.out)⟩⟩
                              · rw [if_neg c28] at H
                                exact absurd H (by simp)
                          · rw [if_neg c20] at H
                            exact absurd H (by simp)
                        · rw [if_neg c19] at H
                          exact absurd H (by simp)
                      · rw [if_neg c17] at H
                        have c17b0 : (((rd_T41 l0 x14_1).f0) == (wrap64 (x5_1 + 1))) = false := beq_eq_false_iff_ne.mpr c17
                        have c17b1 : (((rd_T41 l0 x14_1).f0) != (wrap64 (x5_1 + 1))) = true := bne_iff_ne.mpr c17
                        by_cases c33 : x4_1.length < 5864062014805
                        · rw [if_pos c33] at H
                          have LMc33 := Aside0.mk c33
                          clear c33
                          obtain ⟨y112, hy112⟩ : ∃ y_ : List (S44), y_ = (x4_1 ++ [(⟨((rd_T41 l0 x14_1).f0), ((rd_T41 l0 x14_1).f0), ((rd_T41 l0 x14_1).f1)⟩ : S44)]) := ⟨_, rfl⟩
                          replace H : (ranges_Pack.l0 kj5 y112 ((rd_T41 l0 x14_1).f0) l0 (l0.length : Int) (wrap64 (x14_1 + 1))) = some (r1, r2) := by first | (rw [hy112]; with_reducible exact H) | (have H2_ := (Option.bind_some _ _).symm.trans H; rw [hy112]; with_reducible exact H2_) | (have H2_ := (Option.bind_some _ _).symm.trans H; with_reducible exact H2_) | with_reducible exact H | (rw [hy112]; exact H) | exact H
                          have Ny112 := Aside0.mk hy112
                          clear hy112
                          have H' := Aside0.mk H
                          clear H
                          obtain ⟨Ao34, co34, eo34⟩ := Kd.R_slice HO_4.out
                          subst eo34
                          have hcz35_0 : wc.cell? ⟨gb104, 0, none⟩ = some (.int .i64 ((rd_T41 l0 x14_1).f0)) := (blk_cell BK104.out 0).trans rfl
                          have hcz35_1 : wc.cell? ⟨gb104, 1, none⟩ = some (.int .i32 ((rd_T41 l0 x14_1).f1)) := (blk_cell BK104.out 1).trans rfl
                          have hfz35_0 := blk_frozen BK104.out 0
                          have hfz35_1 := blk_frozen BK104.out 1
                          go_wp2_with (first | ((with_reducible refine gate_builtin (b := .append) (xs := #[.tmp 74, .tmp 82]) rfl ?_); at_builtin; refine Kd.R_append k44 (w0 := w) w.heap.size rfl (.tmp 74) (.tmp 82) 23 44 (.agg #[(.int .i64 0), (.int .i64 0), (.int .i32 0)]) 24 rfl Try.underlying23 info44 rfl (by decide) (by omega) (.slice Ao34 x4_1.length co34) x4_1 (⟨((rd_T41 l0 x14_1).f0), ((rd_T41 l0 x14_1).f0), ((rd_T41 l0 x14_1).f1)⟩ : S44) [.int .i64 ((rd_T41 l0 x14_1).f0), .int .i64 ((rd_T41 l0 x14_1).f0), .int .i32 ((rd_T41 l0 x14_1).f1)] (fun _ => True) (fun _ => False) rfl rfl ?aP (fun _ hk => hk.elim) ?aF ?aO ?aB ?aS ?aL ?_; (case aP => exact k44_mkM _ _ _ (⟨((rd_T41 l0 x14_1).f0), ((rd_T41 l0 x14_1).f0), ((rd_T41 l0 x14_1).f1)⟩ : S44)); (case aB => exact (by repeat (first | (with_reducible first | exact HB.out | apply below_alloc | apply pw_below_drewN | apply below_drew1 | refine below_set ?_ GE104.out) | exact HB.out))); (case aF => exact (fun _ _ => trivial)); (case aO => exact (by (with_reducible repeat (first | apply Kd.R_alloc | apply Kd.R_drewN | apply Kd.R_drew)); exact HO_4.out)); (case aS => exact (below_size (by repeat (first | (with_reducible first | exact HB.out | apply below_alloc | apply pw_below_drewN | apply below_drew1 | refine below_set ?_ GE104.out) | exact HB.out)))); (case aL => have := LMc33.out; omega); intro v113 w36 ho hb hg hat; rw [← Ny112.out] at ho; have n0_ := Aside0.mk (blk_grown (g := gb104) (o := .cells #[.int .i64 ((rd_T41 l0 x14_1).f0), .int .i32 ((rd_T41 l0 x14_1).f1)] 41 (0, 0)) (by (with_reducible repeat (first | refine blk_drewN ?_ _ | refine blk_drew ?_ | refine blk_alloc ?_ _)); exact BK104.out) hg (Kd.R_ne HO_4.out BK104.out (by decide))); have n1_ := Aside0.mk (hb); have n2_ := Aside0.mk (ho); clear BK104; clear HB; clear HO_4; have BK104 := n0_; have HB := n1_; have HO114 := n2_; clear n0_ n1_ n2_; clear ho hb hg hat; have hcz37_0 : w36.cell? ⟨gb104, 0, none⟩ = some (.int .i64 ((rd_T41 l0 x14_1).f0)) := (blk_cell BK104.out 0).trans rfl; have hcz37_1 : w36.cell? ⟨gb104, 1, none⟩ = some (.int .i32 ((rd_T41 l0 x14_1).f1)) := (blk_cell BK104.out 1).trans rfl; have hfz37_0 := blk_frozen BK104.out 0; have hfz37_1 := blk_frozen BK104.out 1))
                          repeat (go_quiet (first | ((with_reducible refine gate_builtin (b := .append) (xs := #[.tmp 74, .tmp 82]) rfl ?_); at_builtin; refine Kd.R_append k44 (w0 := w) w.heap.size rfl (.tmp 74) (.tmp 82) 23 44 (.agg #[(.int .i64 0), (.int .i64 0), (.int .i32 0)]) 24 rfl Try.underlying23 info44 rfl (by decide) (by omega) (.slice Ao34 x4_1.length co34) x4_1 (⟨((rd_T41 l0 x14_1).f0), ((rd_T41 l0 x14_1).f0), ((rd_T41 l0 x14_1).f1)⟩ : S44) [.int .i64 ((rd_T41 l0 x14_1).f0), .int .i64 ((rd_T41 l0 x14_1).f0), .int .i32 ((rd_T41 l0 x14_1).f1)] (fun _ => True) (fun _ => False) rfl rfl ?aP (fun _ hk => hk.elim) ?aF ?aO ?aB ?aS ?aL ?_; (case aP => exact k44_mkM _ _ _ (⟨((rd_T41 l0 x14_1).f0), ((rd_T41 l0 x14_1).f0), ((rd_T41 l0 x14_1).f1)⟩ : S44)); (case aB => exact (by repeat (first | (with_reducible first | exact HB.out | apply below_alloc | apply pw_below_drewN | apply below_drew1 | refine below_set ?_ GE104.out) | exact HB.out))); (case aF => exact (fun _ _ => trivial)); (case aO => exact (by (with_reducible repeat (first | apply Kd.R_alloc | apply Kd.R_drewN | apply Kd.R_drew)); exact HO_4.out)); (case aS => exact (below_size (by repeat (first | (with_reducible first | exact HB.out | apply below_alloc | apply pw_below_drewN | apply below_drew1 | refine below_set ?_ GE104.out) | exact HB.out)))); (case aL => have := LMc33.out; omega); intro v113 w36 ho hb hg hat; rw [← Ny112.out] at ho; have n0_ := Aside0.mk (blk_grown (g := gb104) (o := .cells #[.int .i64 ((rd_T41 l0 x14_1).f0), .int .i32 ((rd_T41 l0 x14_1).f1)] 41 (0, 0)) (by (with_reducible repeat (first | refine blk_drewN ?_ _ | refine blk_drew ?_ | refine blk_alloc ?_ _)); exact BK104.out) hg (Kd.R_ne HO_4.out BK104.out (by decide))); have n1_ := Aside0.mk (hb); have n2_ := Aside0.mk (ho); clear BK104; clear HB; clear HO_4; have BK104 := n0_; have HB := n1_; have HO114 := n2_; clear n0_ n1_ n2_; clear ho hb hg hat; have hcz37_0 : w36.cell? ⟨gb104, 0, none⟩ = some (.int .i64 ((rd_T41 l0 x14_1).f0)) := (blk_cell BK104.out 0).trans rfl; have hcz37_1 : w36.cell? ⟨gb104, 1, none⟩ = some (.int .i32 ((rd_T41 l0 x14_1).f1)) := (blk_cell BK104.out 1).trans rfl; have hfz37_0 := blk_frozen BK104.out 0; have hfz37_1 := blk_frozen BK104.out 1)); try go_wp2_with (first | ((with_reducible refine gate_builtin (b := .append) (xs := #[.tmp 74, .tmp 82]) rfl ?_); at_builtin; refine Kd.R_append k44 (w0 := w) w.heap.size rfl (.tmp 74) (.tmp 82) 23 44 (.agg #[(.int .i64 0), (.int .i64 0), (.int .i32 0)]) 24 rfl Try.underlying23 info44 rfl (by decide) (by omega) (.slice Ao34 x4_1.length co34) x4_1 (⟨((rd_T41 l0 x14_1).f0), ((rd_T41 l0 x14_1).f0), ((rd_T41 l0 x14_1).f1)⟩ : S44) [.int .i64 ((rd_T41 l0 x14_1).f0), .int .i64 ((rd_T41 l0 x14_1).f0), .int .i32 ((rd_T41 l0 x14_1).f1)] (fun _ => True) (fun _ => False) rfl rfl ?aP (fun _ hk => hk.elim) ?aF ?aO ?aB ?aS ?aL ?_; (case aP => exact k44_mkM _ _ _ (⟨((rd_T41 l0 x14_1).f0), ((rd_T41 l0 x14_1).f0), ((rd_T41 l0 x14_1).f1)⟩ : S44)); (case aB => exact (by repeat (first | (with_reducible first | exact HB.out | apply below_alloc | apply pw_below_drewN | apply below_drew1 | refine below_set ?_ GE104.out) | exact HB.out))); (case aF => exact (fun _ _ => trivial)); (case aO => exact (by (with_reducible repeat (first | apply Kd.R_alloc | apply Kd.R_drewN | apply Kd.R_drew)); exact HO_4.out)); (case aS => exact (below_size (by repeat (first | (with_reducible first | exact HB.out | apply below_alloc | apply pw_below_drewN | apply below_drew1 | refine below_set ?_ GE104.out) | exact HB.out)))); (case aL => have := LMc33.out; omega); intro v113 w36 ho hb hg hat; rw [← Ny112.out] at ho; have n0_ := Aside0.mk (blk_grown (g := gb104) (o := .cells #[.int .i64 ((rd_T41 l0 x14_1).f0), .int .i32 ((rd_T41 l0 x14_1).f1)] 41 (0, 0)) (by (with_reducible repeat (first | refine blk_drewN ?_ _ | refine blk_drew ?_ | refine blk_alloc ?_ _)); exact BK104.out) hg (Kd.R_ne HO_4.out BK104.out (by decide))); have n1_ := Aside0.mk (hb); have n2_ := Aside0.mk (ho); clear BK104; clear HB; clear HO_4; have BK104 := n0_; have HB := n1_; have HO114 := n2_; clear n0_ n1_ n2_; clear ho hb hg hat; have hcz37_0 : w36.cell? ⟨gb104, 0, none⟩ = some (.int .i64 ((rd_T41 l0 x14_1).f0)) := (blk_cell BK104.out 0).trans rfl; have hcz37_1 : w36.cell? ⟨gb104, 1, none⟩ = some (.int .i32 ((rd_T41 l0 x14_1).f1)) := (blk_cell BK104.out 1).trans rfl; have hfz37_0 := blk_frozen BK104.out 0; have hfz37_1 := blk_frozen BK104.out 1)))
                          go_roundg kj5
                          case measure => have := HK1.out; have := HJ5.out; omega
                          case rel => exact ⟨(y112), (((rd_T41 l0 x14_1).f0)), (wrap64 (x14_1 + 1)), (by first | rfl | (simp; done) | (simp [*]; done)), (by first | rfl | (simp; done) | (simp [*]; done)), H', ⟨by have := HK1.out; have := HJ5.out; omega⟩, ⟨by (with_reducible repeat (first | apply Kd.R_alloc | apply Kd.R_drewN | apply Kd.R_drew)); exact HO114.out⟩, ⟨by repeat (first | (with_reducible first | exact HB.out | apply below_alloc | apply pw_below_drewN | apply below_drew1 | refine below_set ?_ GE104.out) | exact HB.out)⟩⟩
                        · rw [if_neg c33] at H
                          exact absurd H (by simp)
                    · rw [if_neg c16] at H
                      have c16b0 : decide (0 < (x4_1.length : Int)) = false := decide_eq_false c16
                      have c16b1 : decide (0 < x4_1.length) = false := decide_eq_false (by omega)
                      clear c16
                      by_cases c38 : x4_1.length < 5864062014805
                      · rw [if_pos c38] at H
                        have LMc38 := Aside0.mk c38
                        clear c38
                        obtain ⟨y115, hy115⟩ : ∃ y_ : List (S44), y_ = (x4_1 ++ [(⟨((rd_T41 l0 x14_1).f0), ((rd_T41 l0 x14_1).f0), ((rd_T41 l0 x14_1).f1)⟩ : S44)]) := ⟨_, rfl⟩
                        replace H : (ranges_Pack.l0 kj5 y115 ((rd_T41 l0 x14_1).f0) l0 (l0.length : Int) (wrap64 (x14_1 + 1))) = some (r1, r2) := by first | (rw [hy115]; with_reducible exact H) | (have H2_ := (Option.bind_some _ _).symm.trans H; rw [hy115]; with_reducible exact H2_) | (have H2_ := (Option.bind_some _ _).symm.trans H; with_reducible exact H2_) | with_reducible exact H | (rw [hy115]; exact H) | exact H
                        have Ny115 := Aside0.mk hy115
                        clear hy115
                        have H' := Aside0.mk H
                        clear H
                        obtain ⟨Ao39, co39, eo39⟩ := Kd.R_slice HO_4.out
                        subst eo39
                        have hcz40_0 : wc.cell? ⟨gb104, 0, none⟩ = some (.int .i64 ((rd_T41 l0 x14_1).f0)) := (blk_cell BK104.out 0).trans rfl
                        have hcz40_1 : wc.cell? ⟨gb104, 1, none⟩ = some (.int .i32 ((rd_T41 l0 x14_1).f1)) := (blk_cell BK104.out 1).trans rfl
                        have hfz40_0 := blk_frozen BK104.out 0
                        have hfz40_1 := blk_frozen BK104.out 1
                        go_wp2_with (first | ((with_reducible refine gate_builtin (b := .append) (xs := #[.tmp 74, .tmp 82]) rfl ?_); at_builtin; refine Kd.R_append k44 (w0 := w) w.heap.size rfl (.tmp 74) (.tmp 82) 23 44 (.agg #[(.int .i64 0), (.int .i64 0), (.int .i32 0)]) 24 rfl Try.underlying23 info44 rfl (by decide) (by omega) (.slice Ao39 x4_1.length co39) x4_1 (⟨((rd_T41 l0 x14_1).f0), ((rd_T41 l0 x14_1).f0), ((rd_T41 l0 x14_1).f1)⟩ : S44) [.int .i64 ((rd_T41 l0 x14_1).f0), .int .i64 ((rd_T41 l0 x14_1).f0), .int .i32 ((rd_T41 l0 x14_1).f1)] (fun _ => True) (fun _ => False) rfl rfl ?aP (fun _ hk => hk.elim) ?aF ?aO ?aB ?aS ?aL ?_; (case aP => exact k44_mkM _ _ _ (⟨((rd_T41 l0 x14_1).f0), ((rd_T41 l0 x14_1).f0), ((rd_T41 l0 x14_1).f1)⟩ : S44)); (case aB => exact (by repeat (first | (with_reducible first | exact HB.out | apply below_alloc | apply pw_below_drewN | apply below_drew1 | refine below_set ?_ GE104.out) | exact HB.out))); (case aF => exact (fun _ _ => trivial)); (case aO => exact (by (with_reducible repeat (first | apply Kd.R_alloc | apply Kd.R_drewN | apply Kd.R_drew)); exact HO_4.out)); (case aS => exact (below_size (by repeat (first | (with_reducible first | exact HB.out | apply below_alloc | apply pw_below_drewN | apply below_drew1 | refine below_set ?_ GE104.out) | exact HB.out)))); (case aL => have := LMc38.out; omega); intro v116 w41 ho hb hg hat; rw [← Ny115.out] at ho; have n0_ := Aside0.mk (blk_grown (g := gb104) (o := .cells #[.int .i64 ((rd_T41 l0 x14_1).f0), .int .i32 ((rd_T41 l0 x14_1).f1)] 41 (0, 0)) (by (with_reducible repeat (first | refine blk_drewN ?_ _ | refine blk_drew ?_ | refine blk_alloc ?_ _)); exact BK104.out) hg (Kd.R_ne HO_4.out BK104.out (by decide))); have n1_ := Aside0.mk (hb); have n2_ := Aside0.mk (ho); clear BK104; clear HB; clear HO_4; have BK104 := n0_; have HB := n1_; have HO117 := n2_; clear n0_ n1_ n2_; clear ho hb hg hat; have hcz42_0 : w41.cell? ⟨gb104, 0, none⟩ = some (.int .i64 ((rd_T41 l0 x14_1).f0)) := (blk_cell BK104.out 0).trans rfl; have hcz42_1 : w41.cell? ⟨gb104, 1, none⟩ = some (.int .i32 ((rd_T41 l0 x14_1).f1)) := (blk_cell BK104.out 1).trans rfl; have hfz42_0 := blk_frozen BK104.out 0; have hfz42_1 := blk_frozen BK104.out 1))
                        repeat (go_quiet (first | ((with_reducible refine gate_builtin (b := .append) (xs := #[.tmp 74, .tmp 82]) rfl ?_); at_builtin; refine Kd.R_append k44 (w0 := w) w.heap.size rfl (.tmp 74) (.tmp 82) 23 44 (.agg #[(.int .i64 0), (.int .i64 0), (.int .i32 0)]) 24 rfl Try.underlying23 info44 rfl (by decide) (by omega) (.slice Ao39 x4_1.length co39) x4_1 (⟨((rd_T41 l0 x14_1).f0), ((rd_T41 l0 x14_1).f0), ((rd_T41 l0 x14_1).f1)⟩ : S44) [.int .i64 ((rd_T41 l0 x14_1).f0), .int .i64 ((rd_T41 l0 x14_1).f0), .int .i32 ((rd_T41 l0 x14_1).f1)] (fun _ => True) (fun _ => False) rfl rfl ?aP (fun _ hk => hk.elim) ?aF ?aO ?aB ?aS ?aL ?_; (case aP => exact k44_mkM _ _ _ (⟨((rd_T41 l0 x14_1).f0), ((rd_T41 l0 x14_1).f0), ((rd_T41 l0 x14_1).f1)⟩ : S44)); (case aB => exact (by repeat (first | (with_reducible first | exact HB.out | apply below_alloc | apply pw_below_drewN | apply below_drew1 | refine below_set ?_ GE104.out) | exact HB.out))); (case aF => exact (fun _ _ => trivial)); (case aO => exact (by (with_reducible repeat (first | apply Kd.R_alloc | apply Kd.R_drewN | apply Kd.R_drew)); exact HO_4.out)); (case aS => exact (below_size (by repeat (first | (with_reducible first | exact HB.out | apply below_alloc | apply pw_below_drewN | apply below_drew1 | refine below_set ?_ GE104.out) | exact HB.out)))); (case aL => have := LMc38.out; omega); intro v116 w41 ho hb hg hat; rw [← Ny115.out] at ho; have n0_ := Aside0.mk (blk_grown (g := gb104) (o := .cells #[.int .i64 ((rd_T41 l0 x14_1).f0), .int .i32 ((rd_T41 l0 x14_1).f1)] 41 (0, 0)) (by (with_reducible repeat (first | refine blk_drewN ?_ _ | refine blk_drew ?_ | refine blk_alloc ?_ _)); exact BK104.out) hg (Kd.R_ne HO_4.out BK104.out (by decide))); have n1_ := Aside0.mk (hb); have n2_ := Aside0.mk (ho); clear BK104; clear HB; clear HO_4; have BK104 := n0_; have HB := n1_; have HO117 := n2_; clear n0_ n1_ n2_; clear ho hb hg hat; have hcz42_0 : w41.cell? ⟨gb104, 0, none⟩ = some (.int .i64 ((rd_T41 l0 x14_1).f0)) := (blk_cell BK104.out 0).trans rfl; have hcz42_1 : w41.cell? ⟨gb104, 1, none⟩ = some (.int .i32 ((rd_T41 l0 x14_1).f1)) := (blk_cell BK104.out 1).trans rfl; have hfz42_0 := blk_frozen BK104.out 0; have hfz42_1 := blk_frozen BK104.out 1)); try go_wp2_with (first | ((with_reducible refine gate_builtin (b := .append) (xs := #[.tmp 74, .tmp 82]) rfl ?_); at_builtin; refine Kd.R_append k44 (w0 := w) w.heap.size rfl (.tmp 74) (.tmp 82) 23 44 (.agg #[(.int .i64 0), (.int .i64 0), (.int .i32 0)]) 24 rfl Try.underlying23 info44 rfl (by decide) (by omega) (.slice Ao39 x4_1.length co39) x4_1 (⟨((rd_T41 l0 x14_1).f0), ((rd_T41 l0 x14_1).f0), ((rd_T41 l0 x14_1).f1)⟩ : S44) [.int .i64 ((rd_T41 l0 x14_1).f0), .int .i64 ((rd_T41 l0 x14_1).f0), .int .i32 ((rd_T41 l0 x14_1).f1)] (fun _ => True) (fun _ => False) rfl rfl ?aP (fun _ hk => hk.elim) ?aF ?aO ?aB ?aS ?aL ?_; (case aP => exact k44_mkM _ _ _ (⟨((rd_T41 l0 x14_1).f0), ((rd_T41 l0 x14_1).f0), ((rd_T41 l0 x14_1).f1)⟩ : S44)); (case aB => exact (by repeat (first | (with_reducible first | exact HB.out | apply below_alloc | apply pw_below_drewN | apply below_drew1 | refine below_set ?_ GE104.out) | exact HB.out))); (case aF => exact (fun _ _ => trivial)); (case aO => exact (by (with_reducible repeat (first | apply Kd.R_alloc | apply Kd.R_drewN | apply Kd.R_drew)); exact HO_4.out)); (case aS => exact (below_size (by repeat (first | (with_reducible first | exact HB.out | apply below_alloc | apply pw_below_drewN | apply below_drew1 | refine below_set ?_ GE104.out) | exact HB.out)))); (case aL => have := LMc38.out; omega); intro v116 w41 ho hb hg hat; rw [← Ny115.out] at ho; have n0_ := Aside0.mk (blk_grown (g := gb104) (o := .cells #[.int .i64 ((rd_T41 l0 x14_1).f0), .int .i32 ((rd_T41 l0 x14_1).f1)] 41 (0, 0)) (by (with_reducible repeat (first | refine blk_drewN ?_ _ | refine blk_drew ?_ | refine blk_alloc ?_ _)); exact BK104.out) hg (Kd.R_ne HO_4.out BK104.out (by decide))); have n1_ := Aside0.mk (hb); have n2_ := Aside0.mk (ho); clear BK104; clear HB; clear HO_4; have BK104 := n0_; have HB := n1_; have HO117 := n2_; clear n0_ n1_ n2_; clear ho hb hg hat; have hcz42_0 : w41.cell? ⟨gb104, 0, none⟩ = some (.int .i64 ((rd_T41 l0 x14_1).f0)) := (blk_cell BK104.out 0).trans rfl; have hcz42_1 : w41.cell? ⟨gb104, 1, none⟩ = some (.int .i32 ((rd_T41 l0 x14_1).f1)) := (blk_cell BK104.out 1).trans rfl; have hfz42_0 := blk_frozen BK104.out 0; have hfz42_1 := blk_frozen BK104.out 1)))
                        go_roundg kj5
                        case measure => have := HK1.out; have := HJ5.out; omega
                        case rel => exact ⟨(y115), (((rd_T41 l0 x14_1).f0)), (wrap64 (x14_1 + 1)), (by first | rfl | (simp; done) | (simp [*]; done)), (by first | rfl | (simp; done) | (simp [*]; done)), H', ⟨by have := HK1.out; have := HJ5.out; omega⟩, ⟨by (with_reducible repeat (first | apply Kd.R_alloc | apply Kd.R_drewN | apply Kd.R_drew)); exact HO117.out⟩, ⟨by repeat (first | (with_reducible first | exact HB.out | apply below_alloc | apply pw_below_drewN | apply below_drew1 | refine below_set ?_ GE104.out) | exact HB.out)⟩⟩
                      · rw [if_neg c38] at H
                        exact absurd H (by simp)
            · rw [if_neg c5] at H
              exact absurd H (by simp)
          · rw [if_neg c4] at H
            exact absurd H (by simp)
        · rw [if_neg c3] at H
          have c3b0 : decide (x14_1 < (l0.length : Int)) = false := decide_eq_false c3
          clear c3
          simp only [Option.some.injEq, Prod.mk.injEq] at H
          obtain ⟨rfl, rfl⟩ := H
          go_wp2
          repeat (go_quiet (fail); try go_wp2)
          go_ret2
          exact ⟨_, by first | rfl | (simp [errW_none, errW_some] <;> rfl) | (simp [*, errW_none, errW_some] <;> rfl), by (with_reducible repeat (first | apply Kd.R_alloc | apply Kd.R_drewN | apply Kd.R_drew)); exact HO_4.out, by repeat (first | (with_reducible first | exact HB.out | apply below_alloc | apply pw_below_drewN | apply below_drew1) | exact HB.out)⟩

/-! ### ranges_right: function 24 -/
def ranges_right.j0 : Nat → Bool → Int → Int → Int → Option (Bool)
  | 0, _, _, _, _ => none
  | k + 1, x18, x119000, x119001, x119002 => if x18 = true then (some false) else (if (wrap64 ((wrap64 ((wrap64 (x119002)) + x119001)) - x119000)) > 1114111 then (some false) else ((ucs_Scalar.f x119002).bind fun t119 => (if t119 = true then ((ucs_Scalar.f (wrap32 (wrap64 ((wrap64 ((wrap64 (x119002)) + x119001)) - x119000)))).bind fun t120 => (if t120 = true then (some ((decide (x119002 < 55296)) == (decide ((wrap64 ((wrap64 ((wrap64 (x119002)) + x119001)) - x119000)) < 55296)))) else (some false))) else (some false))))
def ranges_right.f (k : Nat) (a0_0 : Int) (a0_1 : Int) (a0_2 : Int) : Option (Bool) := if a0_0 < 0 then (ranges_right.j0 k true a0_0 a0_1 a0_2) else (if a0_1 > 16777215 then (ranges_right.j0 k true a0_0 a0_1 a0_2) else (ranges_right.j0 k (decide (a0_0 > a0_1)) a0_0 a0_1 a0_2))
theorem ranges_right.mono_l : ∀ k, (∀ y0 y1 y2 y3, LeO (ranges_right.j0 k y0 y1 y2 y3) (ranges_right.j0 (k + 1) y0 y1 y2 y3))
  | 0 => fun _ _ _ _ r h => by simp [ranges_right.j0] at h
  | k + 1 => by
    have ih0 := ranges_right.mono_l k
    · intro y0 y1 y2 y3
      unfold ranges_right.j0
      repeat' first
      | (with_reducible exact ih0 _ _ _ _)
      | (with_reducible exact LeO.refl _)
      | (with_reducible exact LeO.none _)
      | (with_reducible refine LeO.ite ?_ ?_)
      | (with_reducible refine LeO.bind ?_ (fun _ => ?_))
      | exact ih0 _ _ _ _
      | exact LeO.none _
      | refine LeO.ite ?_ ?_
      | refine LeO.bind ?_ (fun _ => ?_)
theorem ranges_right.mono : ∀ a0 a1 a2 k, LeO (ranges_right.f k a0 a1 a2) (ranges_right.f (k + 1) a0 a1 a2) := by
  intro a0 a1 a2 k
  have ih0 := ranges_right.mono_l k
  unfold ranges_right.f
  repeat' first
      | (with_reducible exact ih0 _ _ _ _)
      | (with_reducible exact LeO.refl _)
      | (with_reducible exact LeO.none _)
      | (with_reducible refine LeO.ite ?_ ?_)
      | (with_reducible refine LeO.bind ?_ (fun _ => ?_))
      | exact ih0 _ _ _ _
      | exact LeO.none _
      | refine LeO.ite ?_ ?_
      | refine LeO.bind ?_ (fun _ => ?_)
set_option maxHeartbeats 8000000 in
set_option maxRecDepth 100000 in
theorem ranges_right.calls (k : Nat) (a0_0 : Int) (a0_1 : Int) (a0_2 : Int) (r : Bool) (w : World) (h : ranges_right.f k a0_0 a0_1 a0_2 = some r) :
    Calls Try.prog 24 #[.agg #[.int .i64 a0_0, .int .i64 a0_1, .int .i32 a0_2]] w fun e w' => e = .returned (.bool r) ∧ Below w.heap.size w w' := by
  have hu44 := Try.underlying44
  have HB := Aside0.mk (Below.refl w.heap.size w)
  have H : (if a0_0 < 0 then (ranges_right.j0 k true a0_0 a0_1 a0_2) else (if a0_1 > 16777215 then (ranges_right.j0 k true a0_0 a0_1 a0_2) else (ranges_right.j0 k (decide (a0_0 > a0_1)) a0_0 a0_1 a0_2))) = some r := h
  clear h
  have HC2 := Aside0.mk H
  clear H
  go_enter Try.func24, Try.ntmps24
  go_upto_region 1 with (first | ((with_reducible refine gate_dst (N := 1) rfl ?_); refine box_event ?hg (N := 1) ?hd (cs := #[.int .i64 a0_0, .int .i64 a0_1, .int .i32 a0_2]) (t := 44) ?hr ?_; (case hd => rfl); (case hg => rfl); (case hr => first | (go_simp; done) | (go_simp; rfl)); intro gb118 hg w3 hbox hb; have n0_ := Aside0.mk (below_step (by repeat (first | (with_reducible first | exact HB.out | apply below_alloc | apply pw_below_drewN | apply below_drew1) | exact HB.out)) hb); have n1_ := Aside0.mk (hbox); have n2_ := Aside0.mk ((by rw [hg]; exact (below_size (by repeat (first | (with_reducible first | exact HB.out | apply below_alloc | apply pw_below_drewN | apply below_drew1) | exact HB.out))) : w.heap.size ≤ gb118)); have n3_ := Aside0.mk ((by rw [hg]; exact (below_size (by repeat (first | (with_reducible first | exact HB.out | apply below_alloc | apply pw_below_drewN | apply below_drew1) | exact HB.out))) : w.heap.size ≤ gb118)); clear HB; have HB := n0_; have BK118 := n1_; have GW118 := n2_; have GE118 := n3_; clear n0_ n1_ n2_ n3_; clear hb hbox hg))
  (try simp only [Act.put, List.setIfInBounds_toArray, List.set_cons_zero, List.set_cons_succ])
  go_cut [18] (fun v18 wc => ∃ (kq : Nat) (x18_1 : Bool), v18 = .bool x18_1 ∧ Aside0 (ranges_right.j0 kq x18_1 a0_0 a0_1 a0_2 = some r) ∧ Aside0 (kq ≤ k) ∧ Aside0 (wc.heap[gb118]? = some (.cells #[.int .i64 a0_0, .int .i64 a0_1, .int .i32 a0_2] 44 (0, 0))) ∧ Aside0 (Below w.heap.size w wc))
  case first =>
    have H := HC2.out
    clear HC2
    by_cases c4 : a0_0 < 0
    · rw [if_pos c4] at H
      have c4b0 : decide (a0_0 < 0) = true := decide_eq_true c4
      clear c4
      (first | rw [c4b0] | (simp only [i64_w, i32_w]; rw [c4b0]) | skip)
      have H' := Aside0.mk H
      clear H
      have hcz5_0 : w3.cell? ⟨gb118, 0, none⟩ = some (.int .i64 a0_0) := (blk_cell BK118.out 0).trans rfl
      have hcz5_1 : w3.cell? ⟨gb118, 1, none⟩ = some (.int .i64 a0_1) := (blk_cell BK118.out 1).trans rfl
      have hcz5_2 : w3.cell? ⟨gb118, 2, none⟩ = some (.int .i32 a0_2) := (blk_cell BK118.out 2).trans rfl
      have hfz5_0 := blk_frozen BK118.out 0
      have hfz5_1 := blk_frozen BK118.out 1
      have hfz5_2 := blk_frozen BK118.out 2
      go_wp2
      go_meet
      case rel => exact ⟨_, (true), (by first | rfl | (simp; done) | (simp [*]; done)), H', ⟨by first | omega | exact Nat.le_refl _⟩, ⟨by (with_reducible repeat (first | refine blk_drewN ?_ _ | refine blk_drew ?_ | refine blk_alloc ?_ _)); exact BK118.out⟩, ⟨by repeat (first | (with_reducible first | exact HB.out | apply below_alloc | apply pw_below_drewN | apply below_drew1 | refine below_set ?_ GE118.out) | exact HB.out)⟩⟩
    · rw [if_neg c4] at H
      have c4b0 : decide (a0_0 < 0) = false := decide_eq_false c4
      clear c4
      (first | rw [c4b0] | (simp only [i64_w, i32_w]; rw [c4b0]) | skip)
      by_cases c6 : a0_1 > 16777215
      · rw [if_pos c6] at H
        have c6b0 : decide (16777215 < a0_1) = true := decide_eq_true c6
        clear c6
        have H' := Aside0.mk H
        clear H
        have hcz7_0 : w3.cell? ⟨gb118, 0, none⟩ = some (.int .i64 a0_0) := (blk_cell BK118.out 0).trans rfl
        have hcz7_1 : w3.cell? ⟨gb118, 1, none⟩ = some (.int .i64 a0_1) := (blk_cell BK118.out 1).trans rfl
        have hcz7_2 : w3.cell? ⟨gb118, 2, none⟩ = some (.int .i32 a0_2) := (blk_cell BK118.out 2).trans rfl
        have hfz7_0 := blk_frozen BK118.out 0
        have hfz7_1 := blk_frozen BK118.out 1
        have hfz7_2 := blk_frozen BK118.out 2
        go_wp2
        go_meet
        case rel => exact ⟨_, (true), (by first | rfl | (simp; done) | (simp [*]; done)), H', ⟨by first | omega | exact Nat.le_refl _⟩, ⟨by (with_reducible repeat (first | refine blk_drewN ?_ _ | refine blk_drew ?_ | refine blk_alloc ?_ _)); exact BK118.out⟩, ⟨by repeat (first | (with_reducible first | exact HB.out | apply below_alloc | apply pw_below_drewN | apply below_drew1 | refine below_set ?_ GE118.out) | exact HB.out)⟩⟩
      · rw [if_neg c6] at H
        have c6b0 : decide (16777215 < a0_1) = false := decide_eq_false c6
        clear c6
        have H' := Aside0.mk H
        clear H
        have hcz8_0 : w3.cell? ⟨gb118, 0, none⟩ = some (.int .i64 a0_0) := (blk_cell BK118.out 0).trans rfl
        have hcz8_1 : w3.cell? ⟨gb118, 1, none⟩ = some (.int .i64 a0_1) := (blk_cell BK118.out 1).trans rfl
        have hcz8_2 : w3.cell? ⟨gb118, 2, none⟩ = some (.int .i32 a0_2) := (blk_cell BK118.out 2).trans rfl
        have hfz8_0 := blk_frozen BK118.out 0
        have hfz8_1 := blk_frozen BK118.out 1
        have hfz8_2 := blk_frozen BK118.out 2
        go_wp2
        go_meet
        case rel => exact ⟨_, (decide (a0_0 > a0_1)), (by first | rfl | (simp; done) | (simp [*]; done)), H', ⟨by first | omega | exact Nat.le_refl _⟩, ⟨by (with_reducible repeat (first | refine blk_drewN ?_ _ | refine blk_drew ?_ | refine blk_alloc ?_ _)); exact BK118.out⟩, ⟨by repeat (first | (with_reducible first | exact HB.out | apply below_alloc | apply pw_below_drewN | apply below_drew1 | refine below_set ?_ GE118.out) | exact HB.out)⟩⟩
  case rest =>
    clear HC2
    try clear c2
    try clear p2
    try clear c4
    try clear c4b0
    try clear c6
    try clear c6b0
    try clear hcz5_0
    try clear hcz5_1
    try clear hcz5_2
    try clear hcz7_0
    try clear hcz7_1
    try clear hcz7_2
    try clear hcz8_0
    try clear hcz8_1
    try clear hcz8_2
    try clear hfz5_0
    try clear hfz5_1
    try clear hfz5_2
    try clear hfz7_0
    try clear hfz7_1
    try clear hfz7_2
    try clear hfz8_0
    try clear hfz8_1
    try clear hfz8_2
    obtain ⟨kq, x18_1, rfl, HA, HJ1, BK118, HB⟩ := hcut
    cases kq with
    | zero => exact absurd HA.out (by simp [ranges_right.j0])
    | succ kj1 =>
      have H := HA.out
      clear HA
      simp only [ranges_right.j0] at H
      by_cases c9 : x18_1 = true
      · subst c9
        have H1 : (some false) = some r := by rw [if_pos rfl] at H; exact H
        clear H
        have H := H1
        clear H1
        obtain rfl := Option.some.inj H
        go_wp2
        go_ret
        exact ⟨by first | rfl | (simp [errW_none, errW_some] <;> rfl) | (simp [*, errW_none, errW_some] <;> rfl), by repeat (first | (with_reducible first | exact HB.out | apply below_alloc | apply pw_below_drewN | apply below_drew1 | refine below_set ?_ GE118.out) | exact HB.out)⟩
      · replace c9 := Bool.eq_false_iff.mpr c9
        subst c9
        have H1 : (if (wrap64 ((wrap64 ((wrap64 (a0_2)) + a0_1)) - a0_0)) > 1114111 then (some false) else ((ucs_Scalar.f a0_2).bind fun t119 => (if t119 = true then ((ucs_Scalar.f (wrap32 (wrap64 ((wrap64 ((wrap64 (a0_2)) + a0_1)) - a0_0)))).bind fun t120 => (if t120 = true then (some ((decide (a0_2 < 55296)) == (decide ((wrap64 ((wrap64 ((wrap64 (a0_2)) + a0_1)) - a0_0)) < 55296)))) else (some false))) else (some false)))) = some r := by rw [if_neg (show ¬ (false = true) by decide)] at H; exact H
        clear H
        have H := H1
        clear H1
        by_cases c10 : (wrap64 ((wrap64 ((wrap64 (a0_2)) + a0_1)) - a0_0)) > 1114111
        · rw [if_pos c10] at H
          have c10b0 : decide (1114111 < (wrap64 ((wrap64 ((wrap64 (a0_2)) + a0_1)) - a0_0))) = true := decide_eq_true c10
          clear c10
          obtain rfl := Option.some.inj H
          have hcz11_0 : wc.cell? ⟨gb118, 0, none⟩ = some (.int .i64 a0_0) := (blk_cell BK118.out 0).trans rfl
          have hcz11_1 : wc.cell? ⟨gb118, 1, none⟩ = some (.int .i64 a0_1) := (blk_cell BK118.out 1).trans rfl
          have hcz11_2 : wc.cell? ⟨gb118, 2, none⟩ = some (.int .i32 a0_2) := (blk_cell BK118.out 2).trans rfl
          have hfz11_0 := blk_frozen BK118.out 0
          have hfz11_1 := blk_frozen BK118.out 1
          have hfz11_2 := blk_frozen BK118.out 2
          go_wp2
          go_ret
          exact ⟨by first | rfl | (simp [errW_none, errW_some] <;> rfl) | (simp [*, errW_none, errW_some] <;> rfl), by repeat (first | (with_reducible first | exact HB.out | apply below_alloc | apply pw_below_drewN | apply below_drew1 | refine below_set ?_ GE118.out) | exact HB.out)⟩
        · rw [if_neg c10] at H
          have c10b0 : decide (1114111 < (wrap64 ((wrap64 ((wrap64 (a0_2)) + a0_1)) - a0_0))) = false := decide_eq_false c10
          clear c10
          replace H := Option.bind_eq_some_iff.mp H
          obtain ⟨t119, A120, H⟩ := H
          replace H : (if t119 = true then ((ucs_Scalar.f (wrap32 (wrap64 ((wrap64 ((wrap64 (a0_2)) + a0_1)) - a0_0)))).bind fun t120 => (if t120 = true then (some ((decide (a0_2 < 55296)) == (decide ((wrap64 ((wrap64 ((wrap64 (a0_2)) + a0_1)) - a0_0)) < 55296)))) else (some false))) else (some false)) = some r := H
          have A12 := Aside0.mk A120
          clear A120
          by_cases c13 : t119 = true
          · subst c13
            have H1 : ((ucs_Scalar.f (wrap32 (wrap64 ((wrap64 ((wrap64 (a0_2)) + a0_1)) - a0_0)))).bind fun t120 => (if t120 = true then (some ((decide (a0_2 < 55296)) == (decide ((wrap64 ((wrap64 ((wrap64 (a0_2)) + a0_1)) - a0_0)) < 55296)))) else (some false))) = some r := by rw [if_pos rfl] at H; exact H
            clear H
            have H := H1
            clear H1
            replace H := Option.bind_eq_some_iff.mp H
            obtain ⟨t120, A140, H⟩ := H
            replace H : (if t120 = true then (some ((decide (a0_2 < 55296)) == (decide ((wrap64 ((wrap64 ((wrap64 (a0_2)) + a0_1)) - a0_0)) < 55296)))) else (some false)) = some r := H
            have A14 := Aside0.mk A140
            clear A140
            by_cases c15 : t120 = true
            · subst c15
              have H1 : (some ((decide (a0_2 < 55296)) == (decide ((wrap64 ((wrap64 ((wrap64 (a0_2)) + a0_1)) - a0_0)) < 55296)))) = some r := by rw [if_pos rfl] at H; exact H
              clear H
              have H := H1
              clear H1
              obtain rfl := Option.some.inj H
              have hcz16_0 : wc.cell? ⟨gb118, 0, none⟩ = some (.int .i64 a0_0) := (blk_cell BK118.out 0).trans rfl
              have hcz16_1 : wc.cell? ⟨gb118, 1, none⟩ = some (.int .i64 a0_1) := (blk_cell BK118.out 1).trans rfl
              have hcz16_2 : wc.cell? ⟨gb118, 2, none⟩ = some (.int .i32 a0_2) := (blk_cell BK118.out 2).trans rfl
              have hfz16_0 := blk_frozen BK118.out 0
              have hfz16_1 := blk_frozen BK118.out 1
              have hfz16_2 := blk_frozen BK118.out 2
              go_wp2_with (first | (go_at_call 21; (with_reducible refine (ucs_Scalar.calls a0_2 true _ A12.out).mono ?_); rintro e w' ⟨rfl, ⟨nd, rfl⟩⟩) | (go_at_call 21; (with_reducible refine (ucs_Scalar.calls (wrap32 (wrap64 ((wrap64 ((wrap64 (a0_2)) + a0_1)) - a0_0))) true _ A14.out).mono ?_); rintro e w' ⟨rfl, ⟨nd, rfl⟩⟩))
              go_ret
              exact ⟨by first | rfl | (simp [errW_none, errW_some] <;> rfl) | (simp [*, errW_none, errW_some] <;> rfl), by repeat (first | (with_reducible first | exact HB.out | apply below_alloc | apply pw_below_drewN | apply below_drew1 | refine below_set ?_ GE118.out) | exact HB.out)⟩
            · replace c15 := Bool.eq_false_iff.mpr c15
              subst c15
              have H1 : (some false) = some r := by rw [if_neg (show ¬ (false = true) by decide)] at H; exact H
              clear H
              have H := H1
              clear H1
              obtain rfl := Option.some.inj H
              have hcz17_0 : wc.cell? ⟨gb118, 0, none⟩ = some (.int .i64 a0_0) := (blk_cell BK118.out 0).trans rfl
              have hcz17_1 : wc.cell? ⟨gb118, 1, none⟩ = some (.int .i64 a0_1) := (blk_cell BK118.out 1).trans rfl
              have hcz17_2 : wc.cell? ⟨gb118, 2, none⟩ = some (.int .i32 a0_2) := (blk_cell BK118.out 2).trans rfl
              have hfz17_0 := blk_frozen BK118.out 0
              have hfz17_1 := blk_frozen BK118.out 1
              have hfz17_2 := blk_frozen BK118.out 2
              go_wp2_with (first | (go_at_call 21; (with_reducible refine (ucs_Scalar.calls a0_2 true _ A12.out).mono ?_); rintro e w' ⟨rfl, ⟨nd, rfl⟩⟩) | (go_at_call 21; (with_reducible refine (ucs_Scalar.calls (wrap32 (wrap64 ((wrap64 ((wrap64 (a0_2)) + a0_1)) - a0_0))) false _ A14.out).mono ?_); rintro e w' ⟨rfl, ⟨nd, rfl⟩⟩))
              go_ret
              exact ⟨by first | rfl | (simp [errW_none, errW_some] <;> rfl) | (simp [*, errW_none, errW_some] <;> rfl), by repeat (first | (with_reducible first | exact HB.out | apply below_alloc | apply pw_below_drewN | apply below_drew1 | refine below_set ?_ GE118.out) | exact HB.out)⟩
          · replace c13 := Bool.eq_false_iff.mpr c13
            subst c13
            have H1 : (some false) = some r := by rw [if_neg (show ¬ (false = true) by decide)] at H; exact H
            clear H
            have H := H1
            clear H1
            obtain rfl := Option.some.inj H
            have hcz18_0 : wc.cell? ⟨gb118, 0, none⟩ = some (.int .i64 a0_0) := (blk_cell BK118.out 0).trans rfl
            have hcz18_1 : wc.cell? ⟨gb118, 1, none⟩ = some (.int .i64 a0_1) := (blk_cell BK118.out 1).trans rfl
            have hcz18_2 : wc.cell? ⟨gb118, 2, none⟩ = some (.int .i32 a0_2) := (blk_cell BK118.out 2).trans rfl
            have hfz18_0 := blk_frozen BK118.out 0
            have hfz18_1 := blk_frozen BK118.out 1
            have hfz18_2 := blk_frozen BK118.out 2
            go_wp2_with (first | (go_at_call 21; (with_reducible refine (ucs_Scalar.calls a0_2 false _ A12.out).mono ?_); rintro e w' ⟨rfl, ⟨nd, rfl⟩⟩))
            go_ret
            exact ⟨by first | rfl | (simp [errW_none, errW_some] <;> rfl) | (simp [*, errW_none, errW_some] <;> rfl), by repeat (first | (with_reducible first | exact HB.out | apply below_alloc | apply pw_below_drewN | apply below_drew1 | refine below_set ?_ GE118.out) | exact HB.out)⟩

end Go.Proofs.Ytnapldildjnchaa.PRangesSplit
