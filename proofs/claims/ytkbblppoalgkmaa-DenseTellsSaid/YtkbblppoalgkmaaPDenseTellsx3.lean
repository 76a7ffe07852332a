-- PRINTED BY print.sh 35421559b90ae4d0a3588c463048766b98c2df88dd9212a6774a882060cdf62d: not written by this session
import Derived.Test.YtkbblppoalgkmaaPDenseTellsx0
import Derived.Test.YtkbblppoalgkmaaPDenseTellsx2
namespace Go.Proofs.Ytkbblppoalgkmaa.PDenseTells
open Go.RowKit Go.Proofs.YtkbblppoalgkmaaW.PrintWords Go.Proofs.YtkbblppoalgkmaaW.PrintLast Go.Proofs.YtkbblppoalgkmaaW.PrintMore
attribute [local go_sem] max2_int min2_int max_two min_two max_three min_three max_four min_four   -- for this text's walks alone
set_option linter.unusedVariables false
set_option linter.unusedSimpArgs false

/-! ### dragomanref03_Get: function 17 -/
mutual
def dragomanref03_Get.j2 : Nat → List Int → Int → Option (Int × Int × Int × Int × Int × Int × Int × Int × Int)
  | 0, _, _ => none
  | k + 1, x0, x3 => if 0 ≤ x3 then (if x3 ≤ (x0.length : Int) then ((dragomanref03_bounds.f k (x0.take (x3 : Int).toNat)).bind fun bt132 => (if x3 = 0 then (dragomanref03_Get.j3 k x0 x3 true) else (dragomanref03_Get.j3 k x0 x3 (bt132.2 != 0)))) else (none)) else (none)
def dragomanref03_Get.j3 : Nat → List Int → Int → Bool → Option (Int × Int × Int × Int × Int × Int × Int × Int × Int)
  | 0, _, _, _ => none
  | k + 1, x0, x3, x76 => if x76 = true then (some (1, 0, 0, 0, 0, 0, 0, 0, 0)) else (if 0 < (x0.length : Int) then (if x3 > 1 then (if 0 ≤ (wrap64 (7 - x3)) then (if (shl .i32 1 (wrap64 (7 - x3))) = 0 then (none) else (dragomanref03_Get.j4 k x0 x3 (Int.tmod (wrap32 (rd x0 0)) (shl .i32 1 (wrap64 (7 - x3)))))) else (none)) else (dragomanref03_Get.j4 k x0 x3 (wrap32 (rd x0 0)))) else (none))
def dragomanref03_Get.j4 : Nat → List Int → Int → Int → Option (Int × Int × Int × Int × Int × Int × Int × Int × Int)
  | 0, _, _, _ => none
  | k + 1, x0, x3, x8 => dragomanref03_Get.l1 k x0 x3 x8 1
def dragomanref03_Get.l1 : Nat → List Int → Int → Int → Int → Option (Int × Int × Int × Int × Int × Int × Int × Int × Int)
  | 0, _, _, _, _ => none
  | k + 1, x0, x3, x8, x9 => if x9 < x3 then (if 0 ≤ x9 then (if x9 < (x0.length : Int) then (dragomanref03_Get.l1 k x0 x3 (wrap32 ((wrap32 (64 * x8)) + (Int.tmod (wrap32 (rd x0 x9)) 64))) (wrap64 (x9 + 1))) else (none)) else (none)) else (some (0, x3, 1, x8, 0, 0, 0, 0, 0))
def dragomanref03_Get.l0 : Nat → List Int → Int → Option (Int × Int × Int × Int × Int × Int × Int × Int × Int)
  | 0, _, _ => none
  | k + 1, x0, x3 => if x3 < (x0.length : Int) then (if 0 ≤ x3 then (if x3 ≤ (x0.length : Int) then ((dragomanref03_bounds.f k (x0.take (x3 : Int).toNat)).bind fun bt125 => (if x3 > 0 then (dragomanref03_Get.j1 k x0 x3 bt125.1 bt125.2 (bt125.2 == 0)) else (dragomanref03_Get.j1 k x0 x3 bt125.1 bt125.2 false))) else (none)) else (none)) else (dragomanref03_Get.j2 k x0 x3)
def dragomanref03_Get.j1 : Nat → List Int → Int → Int → Int → Bool → Option (Int × Int × Int × Int × Int × Int × Int × Int × Int)
  | 0, _, _, _, _, _ => none
  | k + 1, x0, x3, x4, x5, x26 => if x26 = true then (dragomanref03_Get.j2 k x0 x3) else (if 0 ≤ x3 then (if x3 < (x0.length : Int) then (if (rd x0 x3) < x4 then (some (10, mx 1 x3, 0, 0, 0, 0, 0, 0, 0)) else (if (rd x0 x3) > x5 then (some (10, mx 1 x3, 0, 0, 0, 0, 0, 0, 0)) else (if x3 = 0 then (if (rd x0 x3) ≥ 128 then (if (rd x0 x3) < 194 then (some (10, mx 1 x3, 0, 0, 0, 0, 0, 0, 0)) else (dragomanref03_Get.l0 k x0 (wrap64 (x3 + 1)))) else (dragomanref03_Get.l0 k x0 (wrap64 (x3 + 1)))) else (dragomanref03_Get.l0 k x0 (wrap64 (x3 + 1)))))) else (none)) else (none))
end
def dragomanref03_Get.f (k : Nat) (l0 : List Int) : Option (Int × Int × Int × Int × Int × Int × Int × Int × Int) := dragomanref03_Get.l0 k l0 0
theorem dragomanref03_Get.mono_l : ∀ k, (∀ y0 y1, LeO (dragomanref03_Get.j2 k y0 y1) (dragomanref03_Get.j2 (k + 1) y0 y1)) ∧ (∀ y0 y1 y2, LeO (dragomanref03_Get.j3 k y0 y1 y2) (dragomanref03_Get.j3 (k + 1) y0 y1 y2)) ∧ (∀ y0 y1 y2, LeO (dragomanref03_Get.j4 k y0 y1 y2) (dragomanref03_Get.j4 (k + 1) y0 y1 y2)) ∧ (∀ y0 y1 y2 y3, LeO (dragomanref03_Get.l1 k y0 y1 y2 y3) (dragomanref03_Get.l1 (k + 1) y0 y1 y2 y3)) ∧ (∀ y0 y1, LeO (dragomanref03_Get.l0 k y0 y1) (dragomanref03_Get.l0 (k + 1) y0 y1)) ∧ (∀ y0 y1 y2 y3 y4, LeO (dragomanref03_Get.j1 k y0 y1 y2 y3 y4) (dragomanref03_Get.j1 (k + 1) y0 y1 y2 y3 y4))
  | 0 => ⟨fun _ _ r h => by simp [dragomanref03_Get.j2] at h, fun _ _ _ r h => by simp [dragomanref03_Get.j3] at h, fun _ _ _ r h => by simp [dragomanref03_Get.j4] at h, fun _ _ _ _ r h => by simp [dragomanref03_Get.l1] at h, fun _ _ r h => by simp [dragomanref03_Get.l0] at h, fun _ _ _ _ _ r h => by simp [dragomanref03_Get.j1] at h⟩
  | k + 1 => by
    obtain ⟨ih0, ih1, ih2, ih3, ih4, ih5⟩ := dragomanref03_Get.mono_l k
    refine ⟨?_, ?_, ?_, ?_, ?_, ?_⟩
    · intro y0 y1
      unfold dragomanref03_Get.j2
      repeat' first
      | (with_reducible exact ih0 _ _)
      | (with_reducible exact ih1 _ _ _)
      | (with_reducible exact ih2 _ _ _)
      | (with_reducible exact ih3 _ _ _ _)
      | (with_reducible exact ih4 _ _)
      | (with_reducible exact ih5 _ _ _ _ _)
      | (with_reducible exact dragomanref03_bounds.mono _ _)
      | (with_reducible exact LeO.refl _)
      | (with_reducible exact LeO.none _)
      | (with_reducible refine LeO.ite ?_ ?_)
      | (with_reducible refine LeO.bind ?_ (fun _ => ?_))
      | exact ih0 _ _
      | exact ih1 _ _ _
      | exact ih2 _ _ _
      | exact ih3 _ _ _ _
      | exact ih4 _ _
      | exact ih5 _ _ _ _ _
      | exact dragomanref03_bounds.mono _ _
      | exact LeO.none _
      | refine LeO.ite ?_ ?_
      | refine LeO.bind ?_ (fun _ => ?_)
    · intro y0 y1 y2
      unfold dragomanref03_Get.j3
      repeat' first
      | (with_reducible exact ih0 _ _)
      | (with_reducible exact ih1 _ _ _)
      | (with_reducible exact ih2 _ _ _)
      | (with_reducible exact ih3 _ _ _ _)
      | (with_reducible exact ih4 _ _)
      | (with_reducible exact ih5 _ _ _ _ _)
      | (with_reducible exact dragomanref03_bounds.mono _ _)
      | (with_reducible exact LeO.refl _)
      | (with_reducible exact LeO.none _)
      | (with_reducible refine LeO.ite ?_ ?_)
      | (with_reducible refine LeO.bind ?_ (fun _ => ?_))
      | exact ih0 _ _
      | exact ih1 _ _ _
      | exact ih2 _ _ _
      | exact ih3 _ _ _ _
      | exact ih4 _ _
      | exact ih5 _ _ _ _ _
      | exact dragomanref03_bounds.mono _ _
      | exact LeO.none _
      | refine LeO.ite ?_ ?_
      | refine LeO.bind ?_ (fun _ => ?_)
    · intro y0 y1 y2
      unfold dragomanref03_Get.j4
      repeat' first
      | (with_reducible exact ih0 _ _)
      | (with_reducible exact ih1 _ _ _)
      | (with_reducible exact ih2 _ _ _)
      | (with_reducible exact ih3 _ _ _ _)
      | (with_reducible exact ih4 _ _)
      | (with_reducible exact ih5 _ _ _ _ _)
      | (with_reducible exact dragomanref03_bounds.mono _ _)
      | (with_reducible exact LeO.refl _)
      | (with_reducible exact LeO.none _)
      | (with_reducible refine LeO.ite ?_ ?_)
      | (with_reducible refine LeO.bind ?_ (fun _ => ?_))
      | exact ih0 _ _
      | exact ih1 _ _ _
      | exact ih2 _ _ _
      | exact ih3 _ _ _ _
      | exact ih4 _ _
      | exact ih5 _ _ _ _ _
      | exact dragomanref03_bounds.mono _ _
      | exact LeO.none _
      | refine LeO.ite ?_ ?_
      | refine LeO.bind ?_ (fun _ => ?_)
    · intro y0 y1 y2 y3
      unfold dragomanref03_Get.l1
      repeat' first
      | (with_reducible exact ih0 _ _)
      | (with_reducible exact ih1 _ _ _)
      | (with_reducible exact ih2 _ _ _)
      | (with_reducible exact ih3 _ _ _ _)
      | (with_reducible exact ih4 _ _)
      | (with_reducible exact ih5 _ _ _ _ _)
      | (with_reducible exact dragomanref03_bounds.mono _ _)
      | (with_reducible exact LeO.refl _)
      | (with_reducible exact LeO.none _)
      | (with_reducible refine LeO.ite ?_ ?_)
      | (with_reducible refine LeO.bind ?_ (fun _ => ?_))
      | exact ih0 _ _
      | exact ih1 _ _ _
      | exact ih2 _ _ _
      | exact ih3 _ _ _ _
      | exact ih4 _ _
      | exact ih5 _ _ _ _ _
      | exact dragomanref03_bounds.mono _ _
      | exact LeO.none _
      | refine LeO.ite ?_ ?_
      | refine LeO.bind ?_ (fun _ => ?_)
    · intro y0 y1
      unfold dragomanref03_Get.l0
      repeat' first
      | (with_reducible exact ih0 _ _)
      | (with_reducible exact ih1 _ _ _)
      | (with_reducible exact ih2 _ _ _)
      | (with_reducible exact ih3 _ _ _ _)
      | (with_reducible exact ih4 _ _)
      | (with_reducible exact ih5 _ _ _ _ _)
      | (with_reducible exact dragomanref03_bounds.mono _ _)
      | (with_reducible exact LeO.refl _)
      | (with_reducible exact LeO.none _)
      | (with_reducible refine LeO.ite ?_ ?_)
      | (with_reducible refine LeO.bind ?_ (fun _ => ?_))
      | exact ih0 _ _
      | exact ih1 _ _ _
      | exact ih2 _ _ _
      | exact ih3 _ _ _ _
      | exact ih4 _ _
      | exact ih5 _ _ _ _ _
      | exact dragomanref03_bounds.mono _ _
      | exact LeO.none _
      | refine LeO.ite ?_ ?_
      | refine LeO.bind ?_ (fun _ => ?_)
    · intro y0 y1 y2 y3 y4
      unfold dragomanref03_Get.j1
      repeat' first
      | (with_reducible exact ih0 _ _)
      | (with_reducible exact ih1 _ _ _)
      | (with_reducible exact ih2 _ _ _)
      | (with_reducible exact ih3 _ _ _ _)
      | (with_reducible exact ih4 _ _)
      | (with_reducible exact ih5 _ _ _ _ _)
      | (with_reducible exact dragomanref03_bounds.mono _ _)
      | (with_reducible exact LeO.refl _)
      | (with_reducible exact LeO.none _)
      | (with_reducible refine LeO.ite ?_ ?_)
      | (with_reducible refine LeO.bind ?_ (fun _ => ?_))
      | exact ih0 _ _
      | exact ih1 _ _ _
      | exact ih2 _ _ _
      | exact ih3 _ _ _ _
      | exact ih4 _ _
      | exact ih5 _ _ _ _ _
      | exact dragomanref03_bounds.mono _ _
      | exact LeO.none _
      | refine LeO.ite ?_ ?_
      | refine LeO.bind ?_ (fun _ => ?_)
theorem dragomanref03_Get.mono : ∀ a0 k, LeO (dragomanref03_Get.f k a0) (dragomanref03_Get.f (k + 1) a0) := by
  intro a0 k
  obtain ⟨ih0, ih1, ih2, ih3, ih4, ih5⟩ := dragomanref03_Get.mono_l k
  unfold dragomanref03_Get.f
  repeat' first
      | (with_reducible exact ih0 _ _)
      | (with_reducible exact ih1 _ _ _)
      | (with_reducible exact ih2 _ _ _)
      | (with_reducible exact ih3 _ _ _ _)
      | (with_reducible exact ih4 _ _)
      | (with_reducible exact ih5 _ _ _ _ _)
      | (with_reducible exact dragomanref03_bounds.mono _ _)
      | (with_reducible exact LeO.refl _)
      | (with_reducible exact LeO.none _)
      | (with_reducible refine LeO.ite ?_ ?_)
      | (with_reducible refine LeO.bind ?_ (fun _ => ?_))
      | exact ih0 _ _
      | exact ih1 _ _ _
      | exact ih2 _ _ _
      | exact ih3 _ _ _ _
      | exact ih4 _ _
      | exact ih5 _ _ _ _ _
      | exact dragomanref03_bounds.mono _ _
      | exact LeO.none _
      | refine LeO.ite ?_ ?_
      | refine LeO.bind ?_ (fun _ => ?_)
set_option maxHeartbeats 8000000 in
set_option maxRecDepth 100000 in
theorem dragomanref03_Get.calls (k : Nat) (A0 : Option Addr) (c0 : Nat) (l0 : List Int) (r1 : Int) (r2 : Int) (r3 : Int) (r4 : Int) (r5 : Int) (r6 : Int) (r7 : Int) (r8 : Int) (r9 : Int) (w : World) (hr0 : Kd.C (Kd.int .u8) w A0 l0.length l0) (hc0 : l0.length ≤ c0) (h : dragomanref03_Get.f k l0 = some (r1, r2, r3, r4, r5, r6, r7, r8, r9)) :
    Calls Try.prog 17 #[.slice A0 l0.length c0] w fun e w' => e = .returned (.agg #[.int .i64 r1, .int .i64 r2, .int .i64 r3, .int .i32 r4, .int .i32 r5, .int .i64 r6, .int .i64 r7, .int .u32 r8, .int .i32 r9]) ∧ Below w.heap.size w w' := by
  have hu51 := Try.underlying51
  have HR0 := Aside0.mk hr0
  have HC0 := Aside0.mk hc0
  clear hr0 hc0
  have HB := Aside0.mk (Below.refl w.heap.size w)
  have H : (dragomanref03_Get.l0 k l0 0) = some (r1, r2, r3, r4, r5, r6, r7, r8, r9) := h
  clear h
  have HC2 := Aside0.mk H
  clear H
  go_enter Try.func17, Try.ntmps17
  go_upto_block 0 with (first | ((with_reducible refine gate_dst (N := 2) rfl ?_); refine box_event ?hg (N := 2) ?hd (cs := #[.int .i64 0, .int .i64 0, .int .i64 0, .int .i32 0, .int .i32 0, .int .i64 0, .int .i64 0, .int .u32 0, .int .i32 0]) (t := 51) ?hr ?_; (case hd => rfl); (case hg => rfl); (case hr => first | (go_simp; done) | (go_simp; rfl)); intro gb123 hg w3 hbox hb; have n0_ := Aside0.mk (below_step (by repeat (first | (with_reducible first | exact HB.out | apply below_alloc | apply pw_below_drewN | apply below_drew1) | exact HB.out)) hb); have n1_ := Aside0.mk (hbox); have n2_ := Aside0.mk ((by rw [hg]; exact (below_size (by repeat (first | (with_reducible first | exact HB.out | apply below_alloc | apply pw_below_drewN | apply below_drew1) | exact HB.out))) : w.heap.size ≤ gb123)); have n3_ := Aside0.mk ((by rw [hg]; exact (below_size (by repeat (first | (with_reducible first | exact HB.out | apply below_alloc | apply pw_below_drewN | apply below_drew1) | exact HB.out))) : w.heap.size ≤ gb123)); clear HB; have HB := n0_; have BK123 := n1_; have GW123 := n2_; have GE123 := n3_; clear n0_ n1_ n2_ n3_; clear hb hbox hg))
  (try simp only [Act.put, List.setIfInBounds_toArray, List.set_cons_zero, List.set_cons_succ])
  go_cut [3] (fun v3 wc => ∃ (kq : Nat) (x3_1 : Int) (x124000_1 : Int) (x124001_1 : Int) (x124002_1 : Int) (x124003_1 : Int) (x124004_1 : Int) (x124005_1 : Int) (x124006_1 : Int) (x124007_1 : Int) (x124008_1 : Int), v3 = .int .i64 x3_1 ∧ Aside0 (dragomanref03_Get.j2 kq l0 x3_1 = some (r1, r2, r3, r4, r5, r6, r7, r8, r9)) ∧ Aside0 (kq ≤ k) ∧ Aside0 (wc.heap[gb123]? = some (.cells #[.int .i64 x124000_1, .int .i64 x124001_1, .int .i64 x124002_1, .int .i32 x124003_1, .int .i32 x124004_1, .int .i64 x124005_1, .int .i64 x124006_1, .int .u32 x124007_1, .int .i32 x124008_1] 51 (0, 0))) ∧ Aside0 (Below w.heap.size w wc))
  case first =>
    have H := HC2.out
    clear HC2
    have H' := Aside0.mk H
    clear H
    go_wp2
    go_loopg [3] k (fun kq v3 w' => ∃ (x3_1 : Int) (x124000_1 : Int) (x124001_1 : Int) (x124002_1 : Int) (x124003_1 : Int) (x124004_1 : Int) (x124005_1 : Int) (x124006_1 : Int) (x124007_1 : Int) (x124008_1 : Int), v3 = .int .i64 x3_1 ∧ Aside0 (dragomanref03_Get.l0 kq l0 x3_1 = some (r1, r2, r3, r4, r5, r6, r7, r8, r9)) ∧ Aside0 (kq ≤ k) ∧ Aside0 (w'.heap[gb123]? = some (.cells #[.int .i64 x124000_1, .int .i64 x124001_1, .int .i64 x124002_1, .int .i32 x124003_1, .int .i32 x124004_1, .int .i64 x124005_1, .int .i64 x124006_1, .int .u32 x124007_1, .int .i32 x124008_1] 51 (0, 0))) ∧ Aside0 (Below w.heap.size w w'))
    case atStart => exact ⟨(0), (0), (0), (0), (0), (0), (0), (0), (0), (0), (by first | rfl | (simp; done) | (simp [*]; done)), H', ⟨Nat.le_refl _⟩, ⟨by (with_reducible repeat (first | refine blk_drewN ?_ _ | refine blk_drew ?_ | refine blk_alloc ?_ _)); exact BK123.out⟩, ⟨by repeat (first | (with_reducible first | exact HB.out | apply below_alloc | apply pw_below_drewN | apply below_drew1 | refine below_set ?_ GE123.out) | exact HB.out)⟩⟩
    case round =>
      clear H'
      try clear c1
      try clear p2
      obtain ⟨x3_1, x124000_1, x124001_1, x124002_1, x124003_1, x124004_1, x124005_1, x124006_1, x124007_1, x124008_1, rfl, HA, HK1, BK123, HB⟩ := hrel
      cases gk with
      | zero => exact absurd HA.out (by simp [dragomanref03_Get.l0])
      | succ k1 =>
        have H := HA.out
        clear HA
        simp only [dragomanref03_Get.l0] at H
        by_cases c4 : x3_1 < (l0.length : Int)
        · rw [if_pos c4] at H
          have c4b0 : decide (x3_1 < (l0.length : Int)) = true := decide_eq_true c4
          clear c4
          (first | rw [c4b0] | (simp only [i64_w, i32_w]; rw [c4b0]) | skip)
          by_cases c5 : 0 ≤ x3_1
          · rw [if_pos c5] at H
            have c5b0 := eq_true c5
            have c5b1 : decide (0 ≤ x3_1) = true := decide_eq_true c5
            clear c5
            by_cases c6 : x3_1 ≤ (l0.length : Int)
            · rw [if_pos c6] at H
              have c6b0 := eq_true c6
              have c6b1 : decide (x3_1 ≤ (l0.length : Int)) = true := decide_eq_true c6
              clear c6
              replace H := Option.bind_eq_some_iff.mp H
              obtain ⟨⟨t125, t126⟩, A70, H⟩ := H
              replace H : (if x3_1 > 0 then (dragomanref03_Get.j1 k1 l0 x3_1 t125 t126 (t126 == 0)) else (dragomanref03_Get.j1 k1 l0 x3_1 t125 t126 false)) = some (r1, r2, r3, r4, r5, r6, r7, r8, r9) := H
              have A7 := Aside0.mk A70
              clear A70
              have HC8 := Aside0.mk H
              clear H
              obtain ⟨i09, hi09, _, hsz9, _⟩ := info_parts info5
              obtain ⟨hcut9, hA9, hC9⟩ := print_take_of (P := Try.prog) (Value.int .u8) 0 41 5 .i64 Try.underlying41 hi09 hsz9 A0 c0 l0 x3_1 (of_decide_eq_true (by first | (with_reducible assumption) | assumption)) (of_decide_eq_true (by first | (with_reducible assumption) | assumption)) HC0.out
              have HR124 := Aside0.mk (Kd.C_of_reads (h1 := fun _ => rfl) (hA9 _ (Kd.reads_of_C HR0.out)))
              have HC124 := Aside0.mk hC9
              clear hA9 hC9 hi09 hsz9
              go_upto_region 4 with (first | ((with_reducible refine gate_callee (f := 20) rfl ?_); refine goesL_ (some 18) rfl rfl Try.func20 (by kernel_rfl) rfl #[.slice A0 (l0.take (x3_1 : Int).toNat).length c0] rfl (by (try simp only [List.map_toArray, List.map_cons, List.map_nil]); first | done | (rw [show (l0.take (x3_1 : Int).toNat).length = x3_1.toNat from (by rw [List.length_take]; have h_ : (x3_1 : Int) ≤ (l0.length : Int) := of_decide_eq_true (by first | (with_reducible assumption) | assumption); omega)] <;> rfl) | rfl | (simp only [List.length_drop, List.length_take]; rfl)) ?_; (with_reducible refine (dragomanref03_bounds.calls k1 _ _ (l0.take (x3_1 : Int).toNat) t125 t126 _ ?side1 ?side2 A7.out).mono ?_); (case side1 => repeat (first | exact (Kd.C_below HR124.out HB.out) | (with_reducible refine Kd.C_alloc ?_ _) | (with_reducible refine Kd.C_drewN ?_ _) | (with_reducible refine Kd.C_drew ?_))); (case side2 => exact HC124.out); rintro e w' ⟨rfl, ⟨nd, rfl⟩⟩; refine ⟨_, rfl, ?_⟩))
              (try simp only [Act.put, List.setIfInBounds_toArray, List.set_cons_zero, List.set_cons_succ])
              go_cut [26] (fun v26 wc => ∃ (kq : Nat) (x26_7 : Bool), v26 = .bool x26_7 ∧ Aside0 (dragomanref03_Get.j1 kq l0 x3_1 t125 t126 x26_7 = some (r1, r2, r3, r4, r5, r6, r7, r8, r9)) ∧ Aside0 (kq ≤ k1) ∧ Aside0 (wc.heap[gb123]? = some (.cells #[.int .i64 x124000_1, .int .i64 x124001_1, .int .i64 x124002_1, .int .i32 x124003_1, .int .i32 x124004_1, .int .i64 x124005_1, .int .i64 x124006_1, .int .u32 x124007_1, .int .i32 x124008_1] 51 (0, 0))) ∧ Aside0 (Below w.heap.size w wc))
              case first =>
                have H := HC8.out
                clear HC8
                by_cases c10 : x3_1 > 0
                · rw [if_pos c10] at H
                  have c10b0 : decide (0 < x3_1) = true := decide_eq_true c10
                  clear c10
                  (first | rw [c10b0] | (simp only [i64_w, i32_w]; rw [c10b0]) | skip)
                  have H' := Aside0.mk H
                  clear H
                  go_wp2
                  go_meet
                  case rel => exact ⟨_, ((t126 == 0)), (by first | rfl | (simp; done) | (simp [*]; done)), H', ⟨by have := HK1.out; first | omega | exact Nat.le_refl _⟩, ⟨by (with_reducible repeat (first | refine blk_drewN ?_ _ | refine blk_drew ?_ | refine blk_alloc ?_ _)); exact BK123.out⟩, ⟨by repeat (first | (with_reducible first | exact HB.out | apply below_alloc | apply pw_below_drewN | apply below_drew1 | refine below_set ?_ GE123.out) | exact HB.out)⟩⟩
                · rw [if_neg c10] at H
                  have c10b0 : decide (0 < x3_1) = false := decide_eq_false c10
                  clear c10
                  (first | rw [c10b0] | (simp only [i64_w, i32_w]; rw [c10b0]) | skip)
                  have H' := Aside0.mk H
                  clear H
                  go_wp2
                  go_meet
                  case rel => exact ⟨_, (false), (by first | rfl | (simp; done) | (simp [*]; done)), H', ⟨by have := HK1.out; first | omega | exact Nat.le_refl _⟩, ⟨by (with_reducible repeat (first | refine blk_drewN ?_ _ | refine blk_drew ?_ | refine blk_alloc ?_ _)); exact BK123.out⟩, ⟨by repeat (first | (with_reducible first | exact HB.out | apply below_alloc | apply pw_below_drewN | apply below_drew1 | refine below_set ?_ GE123.out) | exact HB.out)⟩⟩
              case rest =>
                clear HC8
                try clear c1
                try clear c2
                try clear p2
                try clear c4
                try clear c4b0
                try clear c5
                try clear c5b0
                try clear c5b1
                try clear c6
                try clear c6b0
                try clear c6b1
                try clear c10
                try clear c10b0
                try clear p2
                obtain ⟨kq, x26_7, rfl, HA, HJ7, BK123, HB⟩ := hcut
                cases kq with
                | zero => exact absurd HA.out (by simp [dragomanref03_Get.j1])
                | succ kj7 =>
                  have H := HA.out
                  clear HA
                  simp only [dragomanref03_Get.j1] at H
                  by_cases c11 : x26_7 = true
                  · subst c11
                    have H1 : (dragomanref03_Get.j2 kj7 l0 x3_1) = some (r1, r2, r3, r4, r5, r6, r7, r8, r9) := by rw [if_pos rfl] at H; exact H
                    clear H
                    have H := H1
                    clear H1
                    have H' := Aside0.mk H
                    clear H
                    go_wp2
                    go_meet
                    case rel => exact ⟨_, (x3_1), (x124000_1), (x124001_1), (x124002_1), (x124003_1), (x124004_1), (x124005_1), (x124006_1), (x124007_1), (x124008_1), (by first | rfl | (simp; done) | (simp [*]; done)), H', ⟨by have := HK1.out; have := HJ7.out; first | omega | exact Nat.le_refl _⟩, ⟨by (with_reducible repeat (first | refine blk_drewN ?_ _ | refine blk_drew ?_ | refine blk_alloc ?_ _)); exact BK123.out⟩, ⟨by repeat (first | (with_reducible first | exact HB.out | apply below_alloc | apply pw_below_drewN | apply below_drew1 | refine below_set ?_ GE123.out) | exact HB.out)⟩⟩
                  · replace c11 := Bool.eq_false_iff.mpr c11
                    subst c11
                    have H1 : (if 0 ≤ x3_1 then (if x3_1 < (l0.length : Int) then (if (rd l0 x3_1) < t125 then (some (10, mx 1 x3_1, 0, 0, 0, 0, 0, 0, 0)) else (if (rd l0 x3_1) > t126 then (some (10, mx 1 x3_1, 0, 0, 0, 0, 0, 0, 0)) else (if x3_1 = 0 then (if (rd l0 x3_1) ≥ 128 then (if (rd l0 x3_1) < 194 then (some (10, mx 1 x3_1, 0, 0, 0, 0, 0, 0, 0)) else (dragomanref03_Get.l0 kj7 l0 (wrap64 (x3_1 + 1)))) else (dragomanref03_Get.l0 kj7 l0 (wrap64 (x3_1 + 1)))) else (dragomanref03_Get.l0 kj7 l0 (wrap64 (x3_1 + 1)))))) else (none)) else (none)) = some (r1, r2, r3, r4, r5, r6, r7, r8, r9) := by rw [if_neg (show ¬ (false = true) by decide)] at H; exact H
                    clear H
                    have H := H1
                    clear H1
                    by_cases c12 : 0 ≤ x3_1
                    · rw [if_pos c12] at H
                      have c12b0 : decide (0 ≤ x3_1) = true := decide_eq_true c12
                      clear c12
                      by_cases c13 : x3_1 < (l0.length : Int)
                      · rw [if_pos c13] at H
                        have c13b0 : decide (x3_1 < (l0.length : Int)) = true := decide_eq_true c13
                        clear c13
                        by_cases c14 : (rd l0 x3_1) < t125
                        · rw [if_pos c14] at H
                          have c14b0 : decide ((rd l0 x3_1) < t125) = true := decide_eq_true c14
                          clear c14
                          obtain ⟨ji15, hji15⟩ : ∃ j_ : Int, (mx 1 x3_1) = j_ := ⟨_, rfl⟩
                          replace H : (some (10, ji15, 0, 0, 0, 0, 0, 0, 0)) = some (r1, r2, r3, r4, r5, r6, r7, r8, r9) := by first | (rw [hji15] at H; exact H) | (simp only [hji15] at H ⊢; exact H)
                          have hji15_ : (if 1 < x3_1 then x3_1 else 1) = ji15 := hji15
                          simp only [Option.some.injEq, Prod.mk.injEq] at H
                          obtain ⟨rfl, rfl, rfl, rfl, rfl, rfl, rfl, rfl, rfl⟩ := H
                          have p127 : 0 ≤ (x3_1 : Int) := of_decide_eq_true (by first | (with_reducible assumption) | assumption)
                          have q127 : x3_1 < (l0.length : Int) := of_decide_eq_true (by first | (with_reducible assumption) | assumption)
                          obtain ⟨ad127, e127, hx127_0⟩ := Kd.at_int HR0.out x3_1 p127 q127
                          cases e127
                          replace hx127_0 := (HB.out.cell (World.block_lt_of_cell? w _ hx127_0)).trans hx127_0
                          replace p127 := eq_true p127
                          replace q127 := eq_true q127
                          have hcz16_0 : wc.cell? ⟨gb123, 0, none⟩ = some (.int .i64 x124000_1) := (blk_cell BK123.out 0).trans rfl
                          have hcz16_1 : wc.cell? ⟨gb123, 1, none⟩ = some (.int .i64 x124001_1) := (blk_cell BK123.out 1).trans rfl
                          have hcz16_2 : wc.cell? ⟨gb123, 2, none⟩ = some (.int .i64 x124002_1) := (blk_cell BK123.out 2).trans rfl
                          have hcz16_3 : wc.cell? ⟨gb123, 3, none⟩ = some (.int .i32 x124003_1) := (blk_cell BK123.out 3).trans rfl
                          have hcz16_4 : wc.cell? ⟨gb123, 4, none⟩ = some (.int .i32 x124004_1) := (blk_cell BK123.out 4).trans rfl
                          have hcz16_5 : wc.cell? ⟨gb123, 5, none⟩ = some (.int .i64 x124005_1) := (blk_cell BK123.out 5).trans rfl
                          have hcz16_6 : wc.cell? ⟨gb123, 6, none⟩ = some (.int .i64 x124006_1) := (blk_cell BK123.out 6).trans rfl
                          have hcz16_7 : wc.cell? ⟨gb123, 7, none⟩ = some (.int .u32 x124007_1) := (blk_cell BK123.out 7).trans rfl
                          have hcz16_8 : wc.cell? ⟨gb123, 8, none⟩ = some (.int .i32 x124008_1) := (blk_cell BK123.out 8).trans rfl
                          have hfz16_0 := blk_frozen BK123.out 0
                          have hfz16_1 := blk_frozen BK123.out 1
                          have hfz16_2 := blk_frozen BK123.out 2
                          have hfz16_3 := blk_frozen BK123.out 3
                          have hfz16_4 := blk_frozen BK123.out 4
                          have hfz16_5 := blk_frozen BK123.out 5
                          have hfz16_6 := blk_frozen BK123.out 6
                          have hfz16_7 := blk_frozen BK123.out 7
                          have hfz16_8 := blk_frozen BK123.out 8
                          go_wp2
                          refine bodyPost_ret (results_cell_row rfl _ _ gb123 51 #[.int .i64 10, .int .i64 ji15, .int .i64 0, .int .i32 0, .int .i32 0, .int .i64 0, .int .i64 0, .int .u32 0, .int .i32 0] (0, 0) _ rfl (by (with_reducible repeat (first | refine blk_drewN ?_ _ | refine blk_drew ?_ | refine blk_alloc ?_ _)); refine blk_put (cs := #[.int .i64 10, .int .i64 ji15, .int .i64 0, .int .i32 0, .int .i32 0, .int .i64 0, .int .i64 0, .int .u32 0, .int .i32 x124008_1]) ?_ 8 _ rfl; (with_reducible repeat (first | refine blk_drewN ?_ _ | refine blk_drew ?_ | refine blk_alloc ?_ _)); refine blk_put (cs := #[.int .i64 10, .int .i64 ji15, .int .i64 0, .int .i32 0, .int .i32 0, .int .i64 0, .int .i64 0, .int .u32 x124007_1, .int .i32 x124008_1]) ?_ 7 _ rfl; (with_reducible repeat (first | refine blk_drewN ?_ _ | refine blk_drew ?_ | refine blk_alloc ?_ _)); refine blk_put (cs := #[.int .i64 10, .int .i64 ji15, .int .i64 0, .int .i32 0, .int .i32 0, .int .i64 0, .int .i64 x124006_1, .int .u32 x124007_1, .int .i32 x124008_1]) ?_ 6 _ rfl; (with_reducible repeat (first | refine blk_drewN ?_ _ | refine blk_drew ?_ | refine blk_alloc ?_ _)); refine blk_put (cs := #[.int .i64 10, .int .i64 ji15, .int .i64 0, .int .i32 0, .int .i32 0, .int .i64 x124005_1, .int .i64 x124006_1, .int .u32 x124007_1, .int .i32 x124008_1]) ?_ 5 _ rfl; (with_reducible repeat (first | refine blk_drewN ?_ _ | refine blk_drew ?_ | refine blk_alloc ?_ _)); refine blk_put (cs := #[.int .i64 10, .int .i64 ji15, .int .i64 0, .int .i32 0, .int .i32 x124004_1, .int .i64 x124005_1, .int .i64 x124006_1, .int .u32 x124007_1, .int .i32 x124008_1]) ?_ 4 _ rfl; (with_reducible repeat (first | refine blk_drewN ?_ _ | refine blk_drew ?_ | refine blk_alloc ?_ _)); refine blk_put (cs := #[.int .i64 10, .int .i64 ji15, .int .i64 0, .int .i32 x124003_1, .int .i32 x124004_1, .int .i64 x124005_1, .int .i64 x124006_1, .int .u32 x124007_1, .int .i32 x124008_1]) ?_ 3 _ rfl; (with_reducible repeat (first | refine blk_drewN ?_ _ | refine blk_drew ?_ | refine blk_alloc ?_ _)); refine blk_put (cs := #[.int .i64 10, .int .i64 ji15, .int .i64 x124002_1, .int .i32 x124003_1, .int .i32 x124004_1, .int .i64 x124005_1, .int .i64 x124006_1, .int .u32 x124007_1, .int .i32 x124008_1]) ?_ 2 _ rfl; (with_reducible repeat (first | refine blk_drewN ?_ _ | refine blk_drew ?_ | refine blk_alloc ?_ _)); refine blk_put (cs := #[.int .i64 10, .int .i64 x124001_1, .int .i64 x124002_1, .int .i32 x124003_1, .int .i32 x124004_1, .int .i64 x124005_1, .int .i64 x124006_1, .int .u32 x124007_1, .int .i32 x124008_1]) ?_ 1 _ rfl; (with_reducible repeat (first | refine blk_drewN ?_ _ | refine blk_drew ?_ | refine blk_alloc ?_ _)); refine blk_put (cs := #[.int .i64 x124000_1, .int .i64 x124001_1, .int .i64 x124002_1, .int .i32 x124003_1, .int .i32 x124004_1, .int .i64 x124005_1, .int .i64 x124006_1, .int .u32 x124007_1, .int .i32 x124008_1]) ?_ 0 _ rfl; (with_reducible repeat (first | refine blk_drewN ?_ _ | refine blk_drew ?_ | refine blk_alloc ?_ _)); exact BK123.out) Try.underlying51 rfl (by kernel_rfl)) rfl ?_
                          exact ⟨by first | rfl | (simp [errW_none, errW_some] <;> rfl) | (simp only [← hji15]; first | rfl | (simp [errW_none, errW_some] <;> rfl)) | (simp [*, errW_none, errW_some] <;> rfl), by repeat (first | (with_reducible first | exact HB.out | apply below_alloc | apply pw_below_drewN | apply below_drew1 | refine below_set ?_ GE123.out) | exact HB.out)⟩
                        · rw [if_neg c14] at H
                          have c14b0 : decide ((rd l0 x3_1) < t125) = false := decide_eq_false c14
                          clear c14
                          by_cases c17 : (rd l0 x3_1) > t126
                          · rw [if_pos c17] at H
                            have c17b0 : decide (t126 < (rd l0 x3_1)) = true := decide_eq_true c17
                            clear c17
                            obtain ⟨ji18, hji18⟩ : ∃ j_ : Int, (mx 1 x3_1) = j_ := ⟨_, rfl⟩
                            replace H : (some (10, ji18, 0, 0, 0, 0, 0, 0, 0)) = some (r1, r2, r3, r4, r5, r6, r7, r8, r9) := by first | (rw [hji18] at H; exact H) | (simp only [hji18] at H ⊢; exact H)
                            have hji18_ : (if 1 < x3_1 then x3_1 else 1) = ji18 := hji18
                            simp only [Option.some.injEq, Prod.mk.injEq] at H
                            obtain ⟨rfl, rfl, rfl, rfl, rfl, rfl, rfl, rfl, rfl⟩ := H
                            have p127 : 0 ≤ (x3_1 : Int) := of_decide_eq_true (by first | (with_reducible assumption) | assumption)
                            have q127 : x3_1 < (l0.length : Int) := of_decide_eq_true (by first | (with_reducible assumption) | assumption)
                            obtain ⟨ad127, e127, hx127_0⟩ := Kd.at_int HR0.out x3_1 p127 q127
                            cases e127
                            replace hx127_0 := (HB.out.cell (World.block_lt_of_cell? w _ hx127_0)).trans hx127_0
                            replace p127 := eq_true p127
                            replace q127 := eq_true q127
                            have p128 : 0 ≤ (x3_1 : Int) := of_decide_eq_true (by first | (with_reducible assumption) | assumption)
                            have q128 : x3_1 < (l0.length : Int) := of_decide_eq_true (by first | (with_reducible assumption) | assumption)
                            obtain ⟨ad128, e128, hx128_0⟩ := Kd.at_int HR0.out x3_1 p128 q128
                            obtain rfl : ad127 = ad128 := (by injection e128)
                            replace hx128_0 := (HB.out.cell (World.block_lt_of_cell? w _ hx128_0)).trans hx128_0
                            replace p128 := eq_true p128
                            replace q128 := eq_true q128
                            have hcz19_0 : wc.cell? ⟨gb123, 0, none⟩ = some (.int .i64 x124000_1) := (blk_cell BK123.out 0).trans rfl
                            have hcz19_1 : wc.cell? ⟨gb123, 1, none⟩ = some (.int .i64 x124001_1) := (blk_cell BK123.out 1).trans rfl
                            have hcz19_2 : wc.cell? ⟨gb123, 2, none⟩ = some (.int .i64 x124002_1) := (blk_cell BK123.out 2).trans rfl
                            have hcz19_3 : wc.cell? ⟨gb123, 3, none⟩ = some (.int .i32 x124003_1) := (blk_cell BK123.out 3).trans rfl
                            have hcz19_4 : wc.cell? ⟨gb123, 4, none⟩ = some (.int .i32 x124004_1) := (blk_cell BK123.out 4).trans rfl
                            have hcz19_5 : wc.cell? ⟨gb123, 5, none⟩ = some (.int .i64 x124005_1) := (blk_cell BK123.out 5).trans rfl
                            have hcz19_6 : wc.cell? ⟨gb123, 6, none⟩ = some (.int .i64 x124006_1) := (blk_cell BK123.out 6).trans rfl
                            have hcz19_7 : wc.cell? ⟨gb123, 7, none⟩ = some (.int .u32 x124007_1) := (blk_cell BK123.out 7).trans rfl
                            have hcz19_8 : wc.cell? ⟨gb123, 8, none⟩ = some (.int .i32 x124008_1) := (blk_cell BK123.out 8).trans rfl
                            have hfz19_0 := blk_frozen BK123.out 0
                            have hfz19_1 := blk_frozen BK123.out 1
                            have hfz19_2 := blk_frozen BK123.out 2
                            have hfz19_3 := blk_frozen BK123.out 3
                            have hfz19_4 := blk_frozen BK123.out 4
                            have hfz19_5 := blk_frozen BK123.out 5
                            have hfz19_6 := blk_frozen BK123.out 6
                            have hfz19_7 := blk_frozen BK123.out 7
                            have hfz19_8 := blk_frozen BK123.out 8
                            go_wp2
                            refine bodyPost_ret (results_cell_row rfl _ _ gb123 51 #[.int .i64 10, .int .i64 ji18, .int .i64 0, .int .i32 0, .int .i32 0, .int .i64 0, .int .i64 0, .int .u32 0, .int .i32 0] (0, 0) _ rfl (by (with_reducible repeat (first | refine blk_drewN ?_ _ | refine blk_drew ?_ | refine blk_alloc ?_ _)); refine blk_put (cs := #[.int .i64 10, .int .i64 ji18, .int .i64 0, .int .i32 0, .int .i32 0, .int .i64 0, .int .i64 0, .int .u32 0, .int .i32 x124008_1]) ?_ 8 _ rfl; (with_reducible repeat (first | refine blk_drewN ?_ _ | refine blk_drew ?_ | refine blk_alloc ?_ _)); refine blk_put (cs := #[.int .i64 10, .int .i64 ji18, .int .i64 0, .int .i32 0, .int .i32 0, .int .i64 0, .int .i64 0, .int .u32 x124007_1, .int .i32 x124008_1]) ?_ 7 _ rfl; (with_reducible repeat (first | refine blk_drewN ?_ _ | refine blk_drew ?_ | refine blk_alloc ?_ _)); refine blk_put (cs := #[.int .i64 10, .int .i64 ji18, .int .i64 0, .int .i32 0, .int .i32 0, .int .i64 0, .int .i64 x124006_1, .int .u32 x124007_1, .int .i32 x124008_1]) ?_ 6 _ rfl; (with_reducible repeat (first | refine blk_drewN ?_ _ | refine blk_drew ?_ | refine blk_alloc ?_ _)); refine blk_put (cs := #[.int .i64 10, .int .i64 ji18, .int .i64 0, .int .i32 0, .int .i32 0, .int .i64 x124005_1, .int .i64 x124006_1, .int .u32 x124007_1, .int .i32 x124008_1]) ?_ 5 _ rfl; (with_reducible repeat (first | refine blk_drewN ?_ _ | refine blk_drew ?_ | refine blk_alloc ?_ _)); refine blk_put (cs := #[.int .i64 10, .int .i64 ji18, .int .i64 0, .int .i32 0, .int .i32 x124004_1, .int .i64 x124005_1, .int .i64 x124006_1, .int .u32 x124007_1, .int .i32 x124008_1]) ?_ 4 _ rfl; (with_reducible repeat (first | refine blk_drewN ?_ _ | refine blk_drew ?_ | refine blk_alloc ?_ _)); refine blk_put (cs := #[.int .i64 10, .int .i64 ji18, .int .i64 0, .int .i32 x124003_1, .int .i32 x124004_1, .int .i64 x124005_1, .int .i64 x124006_1, .int .u32 x124007_1, .int .i32 x124008_1]) ?_ 3 _ rfl; (with_reducible repeat (first | refine blk_drewN ?_ _ | refine blk_drew ?_ | refine blk_alloc ?_ _)); refine blk_put (cs := #[.int .i64 10, .int .i64 ji18, .int .i64 x124002_1, .int .i32 x124003_1, .int .i32 x124004_1, .int .i64 x124005_1, .int .i64 x124006_1, .int .u32 x124007_1, .int .i32 x124008_1]) ?_ 2 _ rfl; (with_reducible repeat (first | refine blk_drewN ?_ _ | refine blk_drew ?_ | refine blk_alloc ?_ _)); refine blk_put (cs := #[.int .i64 10, .int .i64 x124001_1, .int .i64 x124002_1, .int .i32 x124003_1, .int .i32 x124004_1, .int .i64 x124005_1, .int .i64 x124006_1, .int .u32 x124007_1, .int .i32 x124008_1]) ?_ 1 _ rfl; (with_reducible repeat (first | refine blk_drewN ?_ _ | refine blk_drew ?_ | refine blk_alloc ?_ _)); refine blk_put (cs := #[.int .i64 x124000_1, .int .i64 x124001_1, .int .i64 x124002_1, .int .i32 x124003_1, .int .i32 x124004_1, .int .i64 x124005_1, .int .i64 x124006_1, .int .u32 x124007_1, .int .i32 x124008_1]) ?_ 0 _ rfl; (with_reducible repeat (first | refine blk_drewN ?_ _ | refine blk_drew ?_ | refine blk_alloc ?_ _)); exact BK123.out) Try.underlying51 rfl (by kernel_rfl)) rfl ?_
                            exact ⟨by first | rfl | (simp [errW_none, errW_some] <;> rfl) | (simp only [← hji18]; first | rfl | (simp [errW_none, errW_some] <;> rfl)) | (simp [*, errW_none, errW_some] <;> rfl), by repeat (first | (with_reducible first | exact HB.out | apply below_alloc | apply pw_below_drewN | apply below_drew1 | refine below_set ?_ GE123.out) | exact HB.out)⟩
                          · rw [if_neg c17] at H
                            have c17b0 : decide (t126 < (rd l0 x3_1)) = false := decide_eq_false c17
                            clear c17
                            by_cases c20 : x3_1 = 0
                            · rw [if_pos c20] at H
                              have c20b0 : (x3_1 == 0) = true := beq_iff_eq.mpr c20
                              have c20b1 : (x3_1 != 0) = false := bne_eq_false_iff_eq.mpr c20
                              clear c20
                              by_cases c21 : (rd l0 x3_1) ≥ 128
                              · rw [if_pos c21] at H
                                have c21b0 : decide (128 ≤ (rd l0 x3_1)) = true := decide_eq_true c21
                                clear c21
                                by_cases c22 : (rd l0 x3_1) < 194
                                · rw [if_pos c22] at H
                                  have c22b0 : decide ((rd l0 x3_1) < 194) = true := decide_eq_true c22
                                  clear c22
                                  obtain ⟨ji23, hji23⟩ : ∃ j_ : Int, (mx 1 x3_1) = j_ := ⟨_, rfl⟩
                                  replace H : (some (10, ji23, 0, 0, 0, 0, 0, 0, 0)) = some (r1, r2, r3, r4, r5, r6, r7, r8, r9) := by first | (rw [hji23] at H; exact H) | (simp only [hji23] at H ⊢; exact H)
                                  have hji23_ : (if 1 < x3_1 then x3_1 else 1) = ji23 := hji23
                                  simp only [Option.some.injEq, Prod.mk.injEq] at H
                                  obtain ⟨rfl, rfl, rfl, rfl, rfl, rfl, rfl, rfl, rfl⟩ := H
                                  have p127 : 0 ≤ (x3_1 : Int) := of_decide_eq_true (by first | (with_reducible assumption) | assumption)
                                  have q127 : x3_1 < (l0.length : Int) := of_decide_eq_true (by first | (with_reducible assumption) | assumption)
                                  obtain ⟨ad127, e127, hx127_0⟩ := Kd.at_int HR0.out x3_1 p127 q127
                                  cases e127
                                  replace hx127_0 := (HB.out.cell (World.block_lt_of_cell? w _ hx127_0)).trans hx127_0
                                  replace p127 := eq_true p127
                                  replace q127 := eq_true q127
                                  have p128 : 0 ≤ (x3_1 : Int) := of_decide_eq_true (by first | (with_reducible assumption) | assumption)
                                  have q128 : x3_1 < (l0.length : Int) := of_decide_eq_true (by first | (with_reducible assumption) | assumption)
                                  obtain ⟨ad128, e128, hx128_0⟩ := Kd.at_int HR0.out x3_1 p128 q128
                                  obtain rfl : ad127 = ad128 := (by injection e128)
                                  replace hx128_0 := (HB.out.cell (World.block_lt_of_cell? w _ hx128_0)).trans hx128_0
                                  replace p128 := eq_true p128
                                  replace q128 := eq_true q128
                                  have p129 : 0 ≤ (x3_1 : Int) := of_decide_eq_true (by first | (with_reducible assumption) | assumption)
                                  have q129 : x3_1 < (l0.length : Int) := of_decide_eq_true (by first | (with_reducible assumption) | assumption)
                                  obtain ⟨ad129, e129, hx129_0⟩ := Kd.at_int HR0.out x3_1 p129 q129
                                  obtain rfl : ad127 = ad129 := (by injection e129)
                                  replace hx129_0 := (HB.out.cell (World.block_lt_of_cell? w _ hx129_0)).trans hx129_0
                                  replace p129 := eq_true p129
                                  replace q129 := eq_true q129
                                  have p130 : 0 ≤ (x3_1 : Int) := of_decide_eq_true (by first | (with_reducible assumption) | assumption)
                                  have q130 : x3_1 < (l0.length : Int) := of_decide_eq_true (by first | (with_reducible assumption) | assumption)
                                  obtain ⟨ad130, e130, hx130_0⟩ := Kd.at_int HR0.out x3_1 p130 q130
                                  obtain rfl : ad127 = ad130 := (by injection e130)
                                  replace hx130_0 := (HB.out.cell (World.block_lt_of_cell? w _ hx130_0)).trans hx130_0
                                  replace p130 := eq_true p130
                                  replace q130 := eq_true q130
                                  have hcz24_0 : wc.cell? ⟨gb123, 0, none⟩ = some (.int .i64 x124000_1) := (blk_cell BK123.out 0).trans rfl
                                  have hcz24_1 : wc.cell? ⟨gb123, 1, none⟩ = some (.int .i64 x124001_1) := (blk_cell BK123.out 1).trans rfl
                                  have hcz24_2 : wc.cell? ⟨gb123, 2, none⟩ = some (.int .i64 x124002_1) := (blk_cell BK123.out 2).trans rfl
                                  have hcz24_3 : wc.cell? ⟨gb123, 3, none⟩ = some (.int .i32 x124003_1) := (blk_cell BK123.out 3).trans rfl
                                  have hcz24_4 : wc.cell? ⟨gb123, 4, none⟩ = some (.int .i32 x124004_1) := (blk_cell BK123.out 4).trans rfl
                                  have hcz24_5 : wc.cell? ⟨gb123, 5, none⟩ = some (.int .i64 x124005_1) := (blk_cell BK123.out 5).trans rfl
                                  have hcz24_6 : wc.cell? ⟨gb123, 6, none⟩ = some (.int .i64 x124006_1) := (blk_cell BK123.out 6).trans rfl
                                  have hcz24_7 : wc.cell? ⟨gb123, 7, none⟩ = some (.int .u32 x124007_1) := (blk_cell BK123.out 7).trans rfl
                                  have hcz24_8 : wc.cell? ⟨gb123, 8, none⟩ = some (.int .i32 x124008_1) := (blk_cell BK123.out 8).trans rfl
                                  have hfz24_0 := blk_frozen BK123.out 0
                                  have hfz24_1 := blk_frozen BK123.out 1
                                  have hfz24_2 := blk_frozen BK123.out 2
                                  have hfz24_3 := blk_frozen BK123.out 3
                                  have hfz24_4 := blk_frozen BK123.out 4
                                  have hfz24_5 := blk_frozen BK123.out 5
                                  have hfz24_6 := blk_frozen BK123.out 6
                                  have hfz24_7 := blk_frozen BK123.out 7
                                  have hfz24_8 := blk_frozen BK123.out 8
                                  go_wp2
                                  refine bodyPost_ret (results_cell_row rfl _ _ gb123 51 #[.int .i64 10, .int .i64 ji23, .int .i64 0, .int .i32 0, .int .i32 0, .int .i64 0, .int .i64 0, .int .u32 0, .int .i32 0] (0, 0) _ rfl (by (with_reducible repeat (first | refine blk_drewN ?_ _ | refine blk_drew ?_ | refine blk_alloc ?_ _)); refine blk_put (cs := #[.int .i64 10, .int .i64 ji23, .int .i64 0, .int .i32 0, .int .i32 0, .int .i64 0, .int .i64 0, .int .u32 0, .int .i32 x124008_1]) ?_ 8 _ rfl; (with_reducible repeat (first | refine blk_drewN ?_ _ | refine blk_drew ?_ | refine blk_alloc ?_ _)); refine blk_put (cs := #[.int .i64 10, .int .i64 ji23, .int .i64 0, .int .i32 0, .int .i32 0, .int .i64 0, .int .i64 0, .int .u32 x124007_1, .int .i32 x124008_1]) ?_ 7 _ rfl; (with_reducible repeat (first | refine blk_drewN ?_ _ | refine blk_drew ?_ | refine blk_alloc ?_ _)); refine blk_put (cs := #[.int .i64 10, .int .i64 ji23, .int .i64 0, .int .i32 0, .int .i32 0, .int .i64 0, .int .i64 x124006_1, .int .u32 x124007_1, .int .i32 x124008_1]) ?_ 6 _ rfl; (with_reducible repeat (first | refine blk_drewN ?_ _ | refine blk_drew ?_ | refine blk_alloc ?_ _)); refine blk_put (cs := #[.int .i64 10, .int .i64 ji23, .int .i64 0, .int .i32 0, .int .i32 0, .int .i64 x124005_1, .int .i64 x124006_1, .int .u32 x124007_1, .int .i32 x124008_1]) ?_ 5 _ rfl; (with_reducible repeat (first | refine blk_drewN ?_ _ | refine blk_drew ?_ | refine blk_alloc ?_ _)); refine blk_put (cs := #[.int .i64 10, .int .i64 ji23, .int .i64 0, .int .i32 0, .int .i32 x124004_1, .int .i64 x124005_1, .int .i64 x124006_1, .int .u32 x124007_1, .int .i32 x124008_1]) ?_ 4 _ rfl; (with_reducible repeat (first | refine blk_drewN ?_ _ | refine blk_drew ?_ | refine blk_alloc ?_ _)); refine blk_put (cs := #[.int .i64 10, .int .i64 ji23, .int .i64 0, .int .i32 x124003_1, .int .i32 x124004_1, .int .i64 x124005_1, .int .i64 x124006_1, .int .u32 x124007_1, .int .i32 x124008_1]) ?_ 3 _ rfl; (with_reducible repeat (first | refine blk_drewN ?_ _ | refine blk_drew ?_ | refine blk_alloc ?_ _)); refine blk_put (cs := #[.int .i64 10, .int .i64 ji23, .int .i64 x124002_1, .int .i32 x124003_1, .int .i32 x124004_1, .int .i64 x124005_1, .int .i64 x124006_1, .int .u32 x124007_1, .int .i32 x124008_1]) ?_ 2 _ rfl; (with_reducible repeat (first | refine blk_drewN ?_ _ | refine blk_drew ?_ | refine blk_alloc ?_ _)); refine blk_put (cs := #[.int .i64 10, .int .i64 x124001_1, .int .i64 x124002_1, .int .i32 x124003_1, .int .i32 x124004_1, .int .i64 x124005_1, .int .i64 x124006_1, .int .u32 x124007_1, .int .i32 x124008_1]) ?_ 1 _ rfl; (with_reducible repeat (first | refine blk_drewN ?_ _ | refine blk_drew ?_ | refine blk_alloc ?_ _)); refine blk_put (cs := #[.int .i64 x124000_1, .int .i64 x124001_1, .int .i64 x124002_1, .int .i32 x124003_1, .int .i32 x124004_1, .int .i64 x124005_1, .int .i64 x124006_1, .int .u32 x124007_1, .int .i32 x124008_1]) ?_ 0 _ rfl; (with_reducible repeat (first | refine blk_drewN ?_ _ | refine blk_drew ?_ | refine blk_alloc ?_ _)); exact BK123.out) Try.underlying51 rfl (by kernel_rfl)) rfl ?_
                                  exact ⟨by first | rfl | (simp [errW_none, errW_some] <;> rfl) | (simp only [← hji23]; first | rfl | (simp [errW_none, errW_some] <;> rfl)) | (simp [*, errW_none, errW_some] <;> rfl), by repeat (first | (with_reducible first | exact HB.out | apply below_alloc | apply pw_below_drewN | apply below_drew1 | refine below_set ?_ GE123.out) | exact HB.out)⟩
                                · rw [if_neg c22] at H
                                  have c22b0 : decide ((rd l0 x3_1) < 194) = false := decide_eq_false c22
                                  clear c22
                                  have H' := Aside0.mk H
                                  clear H
                                  have p127 : 0 ≤ (x3_1 : Int) := of_decide_eq_true (by first | (with_reducible assumption) | assumption)
                                  have q127 : x3_1 < (l0.length : Int) := of_decide_eq_true (by first | (with_reducible assumption) | assumption)
                                  obtain ⟨ad127, e127, hx127_0⟩ := Kd.at_int HR0.out x3_1 p127 q127
                                  cases e127
                                  replace hx127_0 := (HB.out.cell (World.block_lt_of_cell? w _ hx127_0)).trans hx127_0
                                  replace p127 := eq_true p127
                                  replace q127 := eq_true q127
                                  have p128 : 0 ≤ (x3_1 : Int) := of_decide_eq_true (by first | (with_reducible assumption) | assumption)
                                  have q128 : x3_1 < (l0.length : Int) := of_decide_eq_true (by first | (with_reducible assumption) | assumption)
                                  obtain ⟨ad128, e128, hx128_0⟩ := Kd.at_int HR0.out x3_1 p128 q128
                                  obtain rfl : ad127 = ad128 := (by injection e128)
                                  replace hx128_0 := (HB.out.cell (World.block_lt_of_cell? w _ hx128_0)).trans hx128_0
                                  replace p128 := eq_true p128
                                  replace q128 := eq_true q128
                                  have p129 : 0 ≤ (x3_1 : Int) := of_decide_eq_true (by first | (with_reducible assumption) | assumption)
                                  have q129 : x3_1 < (l0.length : Int) := of_decide_eq_true (by first | (with_reducible assumption) | assumption)
                                  obtain ⟨ad129, e129, hx129_0⟩ := Kd.at_int HR0.out x3_1 p129 q129
                                  obtain rfl : ad127 = ad129 := (by injection e129)
                                  replace hx129_0 := (HB.out.cell (World.block_lt_of_cell? w _ hx129_0)).trans hx129_0
                                  replace p129 := eq_true p129
                                  replace q129 := eq_true q129
                                  have p130 : 0 ≤ (x3_1 : Int) := of_decide_eq_true (by first | (with_reducible assumption) | assumption)
                                  have q130 : x3_1 < (l0.length : Int) := of_decide_eq_true (by first | (with_reducible assumption) | assumption)
                                  obtain ⟨ad130, e130, hx130_0⟩ := Kd.at_int HR0.out x3_1 p130 q130
                                  obtain rfl : ad127 = ad130 := (by injection e130)
                                  replace hx130_0 := (HB.out.cell (World.block_lt_of_cell? w _ hx130_0)).trans hx130_0
                                  replace p130 := eq_true p130
                                  replace q130 := eq_true q130
                                  go_wp2
                                  go_roundg kj7
                                  case measure => have := HK1.out; have := HJ7.out; omega
                                  case rel => exact ⟨(wrap64 (x3_1 + 1)), (x124000_1), (x124001_1), (x124002_1), (x124003_1), (x124004_1), (x124005_1), (x124006_1), (x124007_1), (x124008_1), (by first | rfl | (simp; done) | (simp [*]; done)), H', ⟨by have := HK1.out; have := HJ7.out; omega⟩, ⟨by (with_reducible repeat (first | refine blk_drewN ?_ _ | refine blk_drew ?_ | refine blk_alloc ?_ _)); exact BK123.out⟩, ⟨by repeat (first | (with_reducible first | exact HB.out | apply below_alloc | apply pw_below_drewN | apply below_drew1 | refine below_set ?_ GE123.out) | exact HB.out)⟩⟩
                              · rw [if_neg c21] at H
                                have c21b0 : decide (128 ≤ (rd l0 x3_1)) = false := decide_eq_false c21
                                clear c21
                                have H' := Aside0.mk H
                                clear H
                                have p127 : 0 ≤ (x3_1 : Int) := of_decide_eq_true (by first | (with_reducible assumption) | assumption)
                                have q127 : x3_1 < (l0.length : Int) := of_decide_eq_true (by first | (with_reducible assumption) | assumption)
                                obtain ⟨ad127, e127, hx127_0⟩ := Kd.at_int HR0.out x3_1 p127 q127
                                cases e127
                                replace hx127_0 := (HB.out.cell (World.block_lt_of_cell? w _ hx127_0)).trans hx127_0
                                replace p127 := eq_true p127
                                replace q127 := eq_true q127
                                have p128 : 0 ≤ (x3_1 : Int) := of_decide_eq_true (by first | (with_reducible assumption) | assumption)
                                have q128 : x3_1 < (l0.length : Int) := of_decide_eq_true (by first | (with_reducible assumption) | assumption)
                                obtain ⟨ad128, e128, hx128_0⟩ := Kd.at_int HR0.out x3_1 p128 q128
                                obtain rfl : ad127 = ad128 := (by injection e128)
                                replace hx128_0 := (HB.out.cell (World.block_lt_of_cell? w _ hx128_0)).trans hx128_0
                                replace p128 := eq_true p128
                                replace q128 := eq_true q128
                                have p129 : 0 ≤ (x3_1 : Int) := of_decide_eq_true (by first | (with_reducible assumption) | assumption)
                                have q129 : x3_1 < (l0.length : Int) := of_decide_eq_true (by first | (with_reducible assumption) | assumption)
                                obtain ⟨ad129, e129, hx129_0⟩ := Kd.at_int HR0.out x3_1 p129 q129
                                obtain rfl : ad127 = ad129 := (by injection e129)
                                replace hx129_0 := (HB.out.cell (World.block_lt_of_cell? w _ hx129_0)).trans hx129_0
                                replace p129 := eq_true p129
                                replace q129 := eq_true q129
                                go_wp2
                                go_roundg kj7
                                case measure => have := HK1.out; have := HJ7.out; omega
                                case rel => exact ⟨(wrap64 (x3_1 + 1)), (x124000_1), (x124001_1), (x124002_1), (x124003_1), (x124004_1), (x124005_1), (x124006_1), (x124007_1), (x124008_1), (by first | rfl | (simp; done) | (simp [*]; done)), H', ⟨by have := HK1.out; have := HJ7.out; omega⟩, ⟨by (with_reducible repeat (first | refine blk_drewN ?_ _ | refine blk_drew ?_ | refine blk_alloc ?_ _)); exact BK123.out⟩, ⟨by repeat (first | (with_reducible first | exact HB.out | apply below_alloc | apply pw_below_drewN | apply below_drew1 | refine below_set ?_ GE123.out) | exact HB.out)⟩⟩
                            · rw [if_neg c20] at H
                              have c20b0 : (x3_1 == 0) = false := beq_eq_false_iff_ne.mpr c20
                              have c20b1 : (x3_1 != 0) = true := bne_iff_ne.mpr c20
                              have H' := Aside0.mk H
                              clear H
                              have p127 : 0 ≤ (x3_1 : Int) := of_decide_eq_true (by first | (with_reducible assumption) | assumption)
                              have q127 : x3_1 < (l0.length : Int) := of_decide_eq_true (by first | (with_reducible assumption) | assumption)
                              obtain ⟨ad127, e127, hx127_0⟩ := Kd.at_int HR0.out x3_1 p127 q127
                              cases e127
                              replace hx127_0 := (HB.out.cell (World.block_lt_of_cell? w _ hx127_0)).trans hx127_0
                              replace p127 := eq_true p127
                              replace q127 := eq_true q127
                              have p128 : 0 ≤ (x3_1 : Int) := of_decide_eq_true (by first | (with_reducible assumption) | assumption)
                              have q128 : x3_1 < (l0.length : Int) := of_decide_eq_true (by first | (with_reducible assumption) | assumption)
                              obtain ⟨ad128, e128, hx128_0⟩ := Kd.at_int HR0.out x3_1 p128 q128
                              obtain rfl : ad127 = ad128 := (by injection e128)
                              replace hx128_0 := (HB.out.cell (World.block_lt_of_cell? w _ hx128_0)).trans hx128_0
                              replace p128 := eq_true p128
                              replace q128 := eq_true q128
                              go_wp2
                              go_roundg kj7
                              case measure => have := HK1.out; have := HJ7.out; omega
                              case rel => exact ⟨(wrap64 (x3_1 + 1)), (x124000_1), (x124001_1), (x124002_1), (x124003_1), (x124004_1), (x124005_1), (x124006_1), (x124007_1), (x124008_1), (by first | rfl | (simp; done) | (simp [*]; done)), H', ⟨by have := HK1.out; have := HJ7.out; omega⟩, ⟨by (with_reducible repeat (first | refine blk_drewN ?_ _ | refine blk_drew ?_ | refine blk_alloc ?_ _)); exact BK123.out⟩, ⟨by repeat (first | (with_reducible first | exact HB.out | apply below_alloc | apply pw_below_drewN | apply below_drew1 | refine below_set ?_ GE123.out) | exact HB.out)⟩⟩
                      · rw [if_neg c13] at H
                        exact absurd H (by simp)
                    · rw [if_neg c12] at H
                      exact absurd H (by simp)
            · rw [if_neg c6] at H
              exact absurd H (by simp)
          · rw [if_neg c5] at H
            exact absurd H (by simp)
        · rw [if_neg c4] at H
          have c4b0 : decide (x3_1 < (l0.length : Int)) = false := decide_eq_false c4
          clear c4
          (first | rw [c4b0] | (simp only [i64_w, i32_w]; rw [c4b0]) | skip)
          have H' := Aside0.mk H
          clear H
          go_wp2
          go_meet
          case rel => exact ⟨_, (x3_1), (x124000_1), (x124001_1), (x124002_1), (x124003_1), (x124004_1), (x124005_1), (x124006_1), (x124007_1), (x124008_1), (by first | rfl | (simp; done) | (simp [*]; done)), H', ⟨by have := HK1.out; first | omega | exact Nat.le_refl _⟩, ⟨by (with_reducible repeat (first | refine blk_drewN ?_ _ | refine blk_drew ?_ | refine blk_alloc ?_ _)); exact BK123.out⟩, ⟨by repeat (first | (with_reducible first | exact HB.out | apply below_alloc | apply pw_below_drewN | apply below_drew1 | refine below_set ?_ GE123.out) | exact HB.out)⟩⟩
  case rest =>
    clear HC2
    try clear c1
    try clear p1
    try clear q1
    try clear hx1
    try clear c2
    try clear p2
    try clear c4
    try clear c4b0
    try clear c5
    try clear c5b0
    try clear c5b1
    try clear c6
    try clear c6b0
    try clear c6b1
    try clear p6
    try clear c10
    try clear c10b0
    try clear c11
    try clear c12
    try clear c12b0
    try clear p12
    try clear q12
    try clear hx12
    try clear c13
    try clear c13b0
    try clear p13
    try clear q13
    try clear hx13
    try clear c14
    try clear c14b0
    try clear c17
    try clear c17b0
    try clear c20
    try clear c20b0
    try clear c20b1
    try clear c21
    try clear c21b0
    try clear c22
    try clear c22b0
    try clear hcz16_0
    try clear hcz16_1
    try clear hcz16_2
    try clear hcz16_3
    try clear hcz16_4
    try clear hcz16_5
    try clear hcz16_6
    try clear hcz16_7
    try clear hcz16_8
    try clear hcz19_0
    try clear hcz19_1
    try clear hcz19_2
    try clear hcz19_3
    try clear hcz19_4
    try clear hcz19_5
    try clear hcz19_6
    try clear hcz19_7
    try clear hcz19_8
    try clear hcz24_0
    try clear hcz24_1
    try clear hcz24_2
    try clear hcz24_3
    try clear hcz24_4
    try clear hcz24_5
    try clear hcz24_6
    try clear hcz24_7
    try clear hcz24_8
    try clear hfz16_0
    try clear hfz16_1
    try clear hfz16_2
    try clear hfz16_3
    try clear hfz16_4
    try clear hfz16_5
    try clear hfz16_6
    try clear hfz16_7
    try clear hfz16_8
    try clear hfz19_0
    try clear hfz19_1
    try clear hfz19_2
    try clear hfz19_3
    try clear hfz19_4
    try clear hfz19_5
    try clear hfz19_6
    try clear hfz19_7
    try clear hfz19_8
    try clear hfz24_0
    try clear hfz24_1
    try clear hfz24_2
    try clear hfz24_3
    try clear hfz24_4
    try clear hfz24_5
    try clear hfz24_6
    try clear hfz24_7
    try clear hfz24_8
    try clear hx127_0
    try clear hx128_0
    try clear hx129_0
    try clear hx130_0
    try clear p127
    try clear p128
    try clear p129
    try clear p130
    try clear p2
    try clear q127
    try clear q128
    try clear q129
    try clear q130
    obtain ⟨kq, x3_1, x124000_1, x124001_1, x124002_1, x124003_1, x124004_1, x124005_1, x124006_1, x124007_1, x124008_1, rfl, HA, HJ1, BK123, HB⟩ := hcut
    cases kq with
    | zero => exact absurd HA.out (by simp [dragomanref03_Get.j2])
    | succ kj1 =>
      have H := HA.out
      clear HA
      simp only [dragomanref03_Get.j2] at H
      by_cases c25 : 0 ≤ x3_1
      · rw [if_pos c25] at H
        have c25b0 := eq_true c25
        have c25b1 : decide (0 ≤ x3_1) = true := decide_eq_true c25
        clear c25
        by_cases c26 : x3_1 ≤ (l0.length : Int)
        · rw [if_pos c26] at H
          have c26b0 := eq_true c26
          have c26b1 : decide (x3_1 ≤ (l0.length : Int)) = true := decide_eq_true c26
          clear c26
          replace H := Option.bind_eq_some_iff.mp H
          obtain ⟨⟨t132, t133⟩, A270, H⟩ := H
          replace H : (if x3_1 = 0 then (dragomanref03_Get.j3 kj1 l0 x3_1 true) else (dragomanref03_Get.j3 kj1 l0 x3_1 (t133 != 0))) = some (r1, r2, r3, r4, r5, r6, r7, r8, r9) := H
          have A27 := Aside0.mk A270
          clear A270
          have HC28 := Aside0.mk H
          clear H
          obtain ⟨i029, hi029, _, hsz29, _⟩ := info_parts info5
          obtain ⟨hcut29, hA29, hC29⟩ := print_take_of (P := Try.prog) (Value.int .u8) 0 41 5 .i64 Try.underlying41 hi029 hsz29 A0 c0 l0 x3_1 (of_decide_eq_true (by first | (with_reducible assumption) | assumption)) (of_decide_eq_true (by first | (with_reducible assumption) | assumption)) HC0.out
          have HR131 := Aside0.mk (Kd.C_of_reads (h1 := fun _ => rfl) (hA29 _ (Kd.reads_of_C HR0.out)))
          have HC131 := Aside0.mk hC29
          clear hA29 hC29 hi029 hsz29
          go_upto_region 9 with (first | ((with_reducible refine gate_callee (f := 20) rfl ?_); refine goesL_ (some 68) rfl rfl Try.func20 (by kernel_rfl) rfl #[.slice A0 (l0.take (x3_1 : Int).toNat).length c0] rfl (by (try simp only [List.map_toArray, List.map_cons, List.map_nil]); first | done | (rw [show (l0.take (x3_1 : Int).toNat).length = x3_1.toNat from (by rw [List.length_take]; have h_ : (x3_1 : Int) ≤ (l0.length : Int) := of_decide_eq_true (by first | (with_reducible assumption) | assumption); omega)] <;> rfl) | rfl | (simp only [List.length_drop, List.length_take]; rfl)) ?_; (with_reducible refine (dragomanref03_bounds.calls kj1 _ _ (l0.take (x3_1 : Int).toNat) t132 t133 _ ?side1 ?side2 A27.out).mono ?_); (case side1 => repeat (first | exact (Kd.C_below HR131.out HB.out) | (with_reducible refine Kd.C_alloc ?_ _) | (with_reducible refine Kd.C_drewN ?_ _) | (with_reducible refine Kd.C_drew ?_))); (case side2 => exact HC131.out); rintro e w' ⟨rfl, ⟨nd, rfl⟩⟩; refine ⟨_, rfl, ?_⟩))
          (try simp only [Act.put, List.setIfInBounds_toArray, List.set_cons_zero, List.set_cons_succ])
          go_cut [76] (fun v76 wc => ∃ (kq : Nat) (x76_27 : Bool), v76 = .bool x76_27 ∧ Aside0 (dragomanref03_Get.j3 kq l0 x3_1 x76_27 = some (r1, r2, r3, r4, r5, r6, r7, r8, r9)) ∧ Aside0 (kq ≤ kj1) ∧ Aside0 (wc.heap[gb123]? = some (.cells #[.int .i64 x124000_1, .int .i64 x124001_1, .int .i64 x124002_1, .int .i32 x124003_1, .int .i32 x124004_1, .int .i64 x124005_1, .int .i64 x124006_1, .int .u32 x124007_1, .int .i32 x124008_1] 51 (0, 0))) ∧ Aside0 (Below w.heap.size w wc))
          case first =>
            have H := HC28.out
            clear HC28
            by_cases c30 : x3_1 = 0
            · rw [if_pos c30] at H
              have c30b0 : (x3_1 == 0) = true := beq_iff_eq.mpr c30
              have c30b1 : (x3_1 != 0) = false := bne_eq_false_iff_eq.mpr c30
              clear c30
              (first | rw [c30b0] | (simp only [i64_w, i32_w]; rw [c30b0]) | skip)
              have H' := Aside0.mk H
              clear H
              go_wp2
              go_meet
              case rel => exact ⟨_, (true), (by first | rfl | (simp; done) | (simp [*]; done)), H', ⟨by have := HJ1.out; first | omega | exact Nat.le_refl _⟩, ⟨by (with_reducible repeat (first | refine blk_drewN ?_ _ | refine blk_drew ?_ | refine blk_alloc ?_ _)); exact BK123.out⟩, ⟨by repeat (first | (with_reducible first | exact HB.out | apply below_alloc | apply pw_below_drewN | apply below_drew1 | refine below_set ?_ GE123.out) | exact HB.out)⟩⟩
            · rw [if_neg c30] at H
              have c30b0 : (x3_1 == 0) = false := beq_eq_false_iff_ne.mpr c30
              have c30b1 : (x3_1 != 0) = true := bne_iff_ne.mpr c30
              (first | rw [c30b0] | (simp only [i64_w, i32_w]; rw [c30b0]) | skip)
              have H' := Aside0.mk H
              clear H
              go_wp2
              go_meet
              case rel => exact ⟨_, ((t133 != 0)), (by first | rfl | (simp; done) | (simp [*]; done)), H', ⟨by have := HJ1.out; first | omega | exact Nat.le_refl _⟩, ⟨by (with_reducible repeat (first | refine blk_drewN ?_ _ | refine blk_drew ?_ | refine blk_alloc ?_ _)); exact BK123.out⟩, ⟨by repeat (first | (with_reducible first | exact HB.out | apply below_alloc | apply pw_below_drewN | apply below_drew1 | refine below_set ?_ GE123.out) | exact HB.out)⟩⟩
          case rest =>
            clear HC28
            try clear c1
            try clear p1
            try clear q1
            try clear hx1
            try clear c2
            try clear p2
            try clear c3
            try clear c4
            try clear c4b0
            try clear c5
            try clear c5b0
            try clear c5b1
            try clear c6
            try clear c6b0
            try clear c6b1
            try clear p6
            try clear c10
            try clear c10b0
            try clear c11
            try clear c12
            try clear c12b0
            try clear p12
            try clear q12
            try clear hx12
            try clear c13
            try clear c13b0
            try clear p13
            try clear q13
            try clear hx13
            try clear c14
            try clear c14b0
            try clear c17
            try clear c17b0
            try clear c20
            try clear c20b0
            try clear c20b1
            try clear c21
            try clear c21b0
            try clear c22
            try clear c22b0
            try clear c25
            try clear c25b0
            try clear c25b1
            try clear c26
            try clear c26b0
            try clear c26b1
            try clear c30
            try clear c30b0
            try clear c30b1
            try clear hcz16_0
            try clear hcz16_1
            try clear hcz16_2
            try clear hcz16_3
            try clear hcz16_4
            try clear hcz16_5
            try clear hcz16_6
            try clear hcz16_7
            try clear hcz16_8
            try clear hcz19_0
            try clear hcz19_1
            try clear hcz19_2
            try clear hcz19_3
            try clear hcz19_4
            try clear hcz19_5
            try clear hcz19_6
            try clear hcz19_7
            try clear hcz19_8
            try clear hcz24_0
            try clear hcz24_1
            try clear hcz24_2
            try clear hcz24_3
            try clear hcz24_4
            try clear hcz24_5
            try clear hcz24_6
            try clear hcz24_7
            try clear hcz24_8
            try clear hfz16_0
            try clear hfz16_1
            try clear hfz16_2
            try clear hfz16_3
            try clear hfz16_4
            try clear hfz16_5
            try clear hfz16_6
            try clear hfz16_7
            try clear hfz16_8
            try clear hfz19_0
            try clear hfz19_1
            try clear hfz19_2
            try clear hfz19_3
            try clear hfz19_4
            try clear hfz19_5
            try clear hfz19_6
            try clear hfz19_7
            try clear hfz19_8
            try clear hfz24_0
            try clear hfz24_1
            try clear hfz24_2
            try clear hfz24_3
            try clear hfz24_4
            try clear hfz24_5
            try clear hfz24_6
            try clear hfz24_7
            try clear hfz24_8
            try clear hx127_0
            try clear hx128_0
            try clear hx129_0
            try clear hx130_0
            try clear p1
            try clear p12
            try clear p127
            try clear p128
            try clear p129
            try clear p13
            try clear p130
            try clear p2
            try clear p6
            try clear q1
            try clear q12
            try clear q127
            try clear q128
            try clear q129
            try clear q13
            try clear q130
            obtain ⟨kq, x76_27, rfl, HA, HJ27, BK123, HB⟩ := hcut
            cases kq with
            | zero => exact absurd HA.out (by simp [dragomanref03_Get.j3])
            | succ kj27 =>
              have H := HA.out
              clear HA
              simp only [dragomanref03_Get.j3] at H
              by_cases c31 : x76_27 = true
              · subst c31
                have H1 : (some (1, 0, 0, 0, 0, 0, 0, 0, 0)) = some (r1, r2, r3, r4, r5, r6, r7, r8, r9) := by rw [if_pos rfl] at H; exact H
                clear H
                have H := H1
                clear H1
                simp only [Option.some.injEq, Prod.mk.injEq] at H
                obtain ⟨rfl, rfl, rfl, rfl, rfl, rfl, rfl, rfl, rfl⟩ := H
                have hcz32_0 : wc.cell? ⟨gb123, 0, none⟩ = some (.int .i64 x124000_1) := (blk_cell BK123.out 0).trans rfl
                have hcz32_1 : wc.cell? ⟨gb123, 1, none⟩ = some (.int .i64 x124001_1) := (blk_cell BK123.out 1).trans rfl
                have hcz32_2 : wc.cell? ⟨gb123, 2, none⟩ = some (.int .i64 x124002_1) := (blk_cell BK123.out 2).trans rfl
                have hcz32_3 : wc.cell? ⟨gb123, 3, none⟩ = some (.int .i32 x124003_1) := (blk_cell BK123.out 3).trans rfl
                have hcz32_4 : wc.cell? ⟨gb123, 4, none⟩ = some (.int .i32 x124004_1) := (blk_cell BK123.out 4).trans rfl
                have hcz32_5 : wc.cell? ⟨gb123, 5, none⟩ = some (.int .i64 x124005_1) := (blk_cell BK123.out 5).trans rfl
                have hcz32_6 : wc.cell? ⟨gb123, 6, none⟩ = some (.int .i64 x124006_1) := (blk_cell BK123.out 6).trans rfl
                have hcz32_7 : wc.cell? ⟨gb123, 7, none⟩ = some (.int .u32 x124007_1) := (blk_cell BK123.out 7).trans rfl
                have hcz32_8 : wc.cell? ⟨gb123, 8, none⟩ = some (.int .i32 x124008_1) := (blk_cell BK123.out 8).trans rfl
                have hfz32_0 := blk_frozen BK123.out 0
                have hfz32_1 := blk_frozen BK123.out 1
                have hfz32_2 := blk_frozen BK123.out 2
                have hfz32_3 := blk_frozen BK123.out 3
                have hfz32_4 := blk_frozen BK123.out 4
                have hfz32_5 := blk_frozen BK123.out 5
                have hfz32_6 := blk_frozen BK123.out 6
                have hfz32_7 := blk_frozen BK123.out 7
                have hfz32_8 := blk_frozen BK123.out 8
                go_wp2
                refine bodyPost_ret (results_cell_row rfl _ _ gb123 51 #[.int .i64 1, .int .i64 0, .int .i64 0, .int .i32 0, .int .i32 0, .int .i64 0, .int .i64 0, .int .u32 0, .int .i32 0] (0, 0) _ rfl (by (with_reducible repeat (first | refine blk_drewN ?_ _ | refine blk_drew ?_ | refine blk_alloc ?_ _)); refine blk_put (cs := #[.int .i64 1, .int .i64 0, .int .i64 0, .int .i32 0, .int .i32 0, .int .i64 0, .int .i64 0, .int .u32 0, .int .i32 x124008_1]) ?_ 8 _ rfl; (with_reducible repeat (first | refine blk_drewN ?_ _ | refine blk_drew ?_ | refine blk_alloc ?_ _)); refine blk_put (cs := #[.int .i64 1, .int .i64 0, .int .i64 0, .int .i32 0, .int .i32 0, .int .i64 0, .int .i64 0, .int .u32 x124007_1, .int .i32 x124008_1]) ?_ 7 _ rfl; (with_reducible repeat (first | refine blk_drewN ?_ _ | refine blk_drew ?_ | refine blk_alloc ?_ _)); refine blk_put (cs := #[.int .i64 1, .int .i64 0, .int .i64 0, .int .i32 0, .int .i32 0, .int .i64 0, .int .i64 x124006_1, .int .u32 x124007_1, .int .i32 x124008_1]) ?_ 6 _ rfl; (with_reducible repeat (first | refine blk_drewN ?_ _ | refine blk_drew ?_ | refine blk_alloc ?_ _)); refine blk_put (cs := #[.int .i64 1, .int .i64 0, .int .i64 0, .int .i32 0, .int .i32 0, .int .i64 x124005_1, .int .i64 x124006_1, .int .u32 x124007_1, .int .i32 x124008_1]) ?_ 5 _ rfl; (with_reducible repeat (first | refine blk_drewN ?_ _ | refine blk_drew ?_ | refine blk_alloc ?_ _)); refine blk_put (cs := #[.int .i64 1, .int .i64 0, .int .i64 0, .int .i32 0, .int .i32 x124004_1, .int .i64 x124005_1, .int .i64 x124006_1, .int .u32 x124007_1, .int .i32 x124008_1]) ?_ 4 _ rfl; (with_reducible repeat (first | refine blk_drewN ?_ _ | refine blk_drew ?_ | refine blk_alloc ?_ _)); refine blk_put (cs := #[.int .i64 1, .int .i64 0, .int .i64 0, .int .i32 x124003_1, .int .i32 x124004_1, .int .i64 x124005_1, .int .i64 x124006_1, .int .u32 x124007_1, .int .i32 x124008_1]) ?_ 3 _ rfl; (with_reducible repeat (first | refine blk_drewN ?_ _ | refine blk_drew ?_ | refine blk_alloc ?_ _)); refine blk_put (cs := #[.int .i64 1, .int .i64 0, .int .i64 x124002_1, .int .i32 x124003_1, .int .i32 x124004_1, .int .i64 x124005_1, .int .i64 x124006_1, .int .u32 x124007_1, .int .i32 x124008_1]) ?_ 2 _ rfl; (with_reducible repeat (first | refine blk_drewN ?_ _ | refine blk_drew ?_ | refine blk_alloc ?_ _)); refine blk_put (cs := #[.int .i64 1, .int .i64 x124001_1, .int .i64 x124002_1, .int .i32 x124003_1, .int .i32 x124004_1, .int .i64 x124005_1, .int .i64 x124006_1, .int .u32 x124007_1, .int .i32 x124008_1]) ?_ 1 _ rfl; (with_reducible repeat (first | refine blk_drewN ?_ _ | refine blk_drew ?_ | refine blk_alloc ?_ _)); refine blk_put (cs := #[.int .i64 x124000_1, .int .i64 x124001_1, .int .i64 x124002_1, .int .i32 x124003_1, .int .i32 x124004_1, .int .i64 x124005_1, .int .i64 x124006_1, .int .u32 x124007_1, .int .i32 x124008_1]) ?_ 0 _ rfl; (with_reducible repeat (first | refine blk_drewN ?_ _ | refine blk_drew ?_ | refine blk_alloc ?_ _)); exact BK123.out) Try.underlying51 rfl (by kernel_rfl)) rfl ?_
                exact ⟨by first | rfl | (simp [errW_none, errW_some] <;> rfl) | (simp [*, errW_none, errW_some] <;> rfl), by repeat (first | (with_reducible first | exact HB.out | apply below_alloc | apply pw_below_drewN | apply below_drew1 | refine below_set ?_ GE123.out) | exact HB.out)⟩
              · replace c31 := Bool.eq_false_iff.mpr c31
                subst c31
                have H1 : (if 0 < (l0.length : Int) then (if x3_1 > 1 then (if 0 ≤ (wrap64 (7 - x3_1)) then (if (shl .i32 1 (wrap64 (7 - x3_1))) = 0 then (none) else (dragomanref03_Get.j4 kj27 l0 x3_1 (Int.tmod (wrap32 (rd l0 0)) (shl .i32 1 (wrap64 (7 - x3_1)))))) else (none)) else (dragomanref03_Get.j4 kj27 l0 x3_1 (wrap32 (rd l0 0)))) else (none)) = some (r1, r2, r3, r4, r5, r6, r7, r8, r9) := by rw [if_neg (show ¬ (false = true) by decide)] at H; exact H
                clear H
                have H := H1
                clear H1
                by_cases c33 : 0 < (l0.length : Int)
                · rw [if_pos c33] at H
                  have c33b0 : decide (0 < (l0.length : Int)) = true := decide_eq_true c33
                  have c33b1 : decide (0 < l0.length) = true := decide_eq_true (by omega)
                  clear c33
                  have HC34 := Aside0.mk H
                  clear H
                  have p134 : 0 ≤ (0 : Int) := (by omega)
                  have q134 : 0 < (l0.length : Int) := of_decide_eq_true (by first | (with_reducible assumption) | assumption)
                  obtain ⟨ad134, e134, hx134_0⟩ := Kd.at_int HR0.out 0 p134 q134
                  cases e134
                  have qi134 : (0 < l0.length) = True := eq_true (by omega)
                  (try rw [show ((0 : Int)).toNat = 0 from rfl] at hx134_0)
                  (try rw [Addr.add_zero'] at hx134_0)
                  replace hx134_0 := (HB.out.cell (World.block_lt_of_cell? w _ hx134_0)).trans hx134_0
                  replace p134 := eq_true p134
                  replace q134 := eq_true q134
                  go_upto_if 83 with (fail)
                  go_cut [8] (fun v8 wc => ∃ (kq : Nat) (x8_33 : Int), v8 = .int .i32 x8_33 ∧ Aside0 (dragomanref03_Get.j4 kq l0 x3_1 x8_33 = some (r1, r2, r3, r4, r5, r6, r7, r8, r9)) ∧ Aside0 (kq ≤ kj27) ∧ Aside0 (wc.heap[gb123]? = some (.cells #[.int .i64 x124000_1, .int .i64 x124001_1, .int .i64 x124002_1, .int .i32 x124003_1, .int .i32 x124004_1, .int .i64 x124005_1, .int .i64 x124006_1, .int .u32 x124007_1, .int .i32 x124008_1] 51 (0, 0))) ∧ Aside0 (Below w.heap.size w wc))
                  case first =>
                    have H := HC34.out
                    clear HC34
                    by_cases c35 : x3_1 > 1
                    · rw [if_pos c35] at H
                      have c35b0 : decide (1 < x3_1) = true := decide_eq_true c35
                      clear c35
                      (first | rw [c35b0] | (simp only [i64_w, i32_w]; rw [c35b0]) | skip)
                      obtain ⟨ji36, hji36⟩ : ∃ j_ : Int, (wrap64 (7 - x3_1)) = j_ := ⟨_, rfl⟩
                      replace H : (if 0 ≤ (ji36) then (if (shl .i32 1 (ji36)) = 0 then (none) else (dragomanref03_Get.j4 kj27 l0 x3_1 (Int.tmod (wrap32 (rd l0 0)) (shl .i32 1 (ji36))))) else (none)) = some (r1, r2, r3, r4, r5, r6, r7, r8, r9) := by first | (rw [hji36] at H; exact H) | (simp only [hji36] at H ⊢; exact H)
                      have hji36w : (IntKind.i64.wrap (7 - x3_1)) = ji36 := (i64_w _).trans hji36
                      by_cases c37 : 0 ≤ (ji36)
                      · rw [if_pos c37] at H
                        have c37b0 := eq_true c37
                        have c37b1 : decide (0 ≤ (ji36)) = true := decide_eq_true c37
                        clear c37
                        obtain ⟨ji38, hji38⟩ : ∃ j_ : Int, (shl .i32 1 (ji36)) = j_ := ⟨_, rfl⟩
                        replace H : (if (ji38) = 0 then (none) else (dragomanref03_Get.j4 kj27 l0 x3_1 (Int.tmod (wrap32 (rd l0 0)) (ji38)))) = some (r1, r2, r3, r4, r5, r6, r7, r8, r9) := by first | (rw [hji38] at H; exact H) | (simp only [hji38] at H ⊢; exact H)
                        have hji38_ : (IntKind.i32.wrap (1 * 2 ^ min (ji36).toNat 32)) = ji38 := hji38
                        have hji38z : (ji36) ≤ 32 → (IntKind.i32.wrap (1 * 2 ^ (ji36).toNat)) = ji38 := shl_small hji38
                        have hji38u : (IntKind.i32.wrap (2 ^ min (ji36).toNat 32)) = ji38 := by have h_ := hji38_; rw [Int.one_mul] at h_; exact h_
                        have hji38v : (ji36) ≤ 32 → (IntKind.i32.wrap (2 ^ (ji36).toNat)) = ji38 := fun hle_ => by have h_ := hji38z hle_; rw [Int.one_mul] at h_; exact h_
                        have hji38y : (wrap32 (1 * 2 ^ min (ji36).toNat 32)) = ji38 := (i32_w _).symm.trans hji38_
                        have hji38x : (ji36) ≤ 32 → (wrap32 (1 * 2 ^ (ji36).toNat)) = ji38 := fun h_ => (i32_w _).symm.trans (hji38z h_)
                        by_cases c39 : (ji38) = 0
                        · rw [if_pos c39] at H
                          exact absurd H (by simp)
                        · rw [if_neg c39] at H
                          have c39b0 : ((ji38) == 0) = false := beq_eq_false_iff_ne.mpr c39
                          have c39b1 : ((ji38) != 0) = true := bne_iff_ne.mpr c39
                          have H' := Aside0.mk H
                          clear H
                          go_wp2
                          go_meet
                          case rel => exact ⟨_, (Int.tmod (wrap32 (rd l0 0)) (ji38)), (by first | rfl | (simp; done) | (simp only [← hji38] <;> (first | rfl | simp)) | (simp [*]; done)), H', ⟨by have := HJ1.out; have := HJ27.out; first | omega | exact Nat.le_refl _⟩, ⟨by (with_reducible repeat (first | refine blk_drewN ?_ _ | refine blk_drew ?_ | refine blk_alloc ?_ _)); exact BK123.out⟩, ⟨by repeat (first | (with_reducible first | exact HB.out | apply below_alloc | apply pw_below_drewN | apply below_drew1 | refine below_set ?_ GE123.out) | exact HB.out)⟩⟩
                      · rw [if_neg c37] at H
                        exact absurd H (by simp)
                    · rw [if_neg c35] at H
                      have c35b0 : decide (1 < x3_1) = false := decide_eq_false c35
                      clear c35
                      (first | rw [c35b0] | (simp only [i64_w, i32_w]; rw [c35b0]) | skip)
                      have H' := Aside0.mk H
                      clear H
                      go_wp2
                      go_meet
                      case rel => exact ⟨_, (wrap32 (rd l0 0)), (by first | rfl | (simp; done) | (simp [*]; done)), H', ⟨by have := HJ1.out; have := HJ27.out; first | omega | exact Nat.le_refl _⟩, ⟨by (with_reducible repeat (first | refine blk_drewN ?_ _ | refine blk_drew ?_ | refine blk_alloc ?_ _)); exact BK123.out⟩, ⟨by repeat (first | (with_reducible first | exact HB.out | apply below_alloc | apply pw_below_drewN | apply below_drew1 | refine below_set ?_ GE123.out) | exact HB.out)⟩⟩
                  case rest =>
                    clear HC34
                    try clear c1
                    try clear p1
                    try clear q1
                    try clear hx1
                    try clear qi1
                    try clear c2
                    try clear p2
                    try clear c3
                    try clear p3
                    try clear c4
                    try clear c4b0
                    try clear c5
                    try clear c5b0
                    try clear c5b1
                    try clear c6
                    try clear c6b0
                    try clear c6b1
                    try clear p6
                    try clear c10
                    try clear c10b0
                    try clear c11
                    try clear c12
                    try clear c12b0
                    try clear p12
                    try clear q12
                    try clear hx12
                    try clear c13
                    try clear c13b0
                    try clear p13
                    try clear q13
                    try clear hx13
                    try clear qi13
                    try clear c14
                    try clear c14b0
                    try clear c17
                    try clear c17b0
                    try clear c20
                    try clear c20b0
                    try clear c20b1
                    try clear c21
                    try clear c21b0
                    try clear c22
                    try clear c22b0
                    try clear c25
                    try clear c25b0
                    try clear c25b1
                    try clear c26
                    try clear c26b0
                    try clear c26b1
                    try clear c30
                    try clear c30b0
                    try clear c30b1
                    try clear c31
                    try clear p32
                    try clear c33
                    try clear c33b0
                    try clear c33b1
                    try clear c35
                    try clear c35b0
                    try clear c37
                    try clear c37b0
                    try clear c37b1
                    try clear c39
                    try clear c39b0
                    try clear c39b1
                    try clear hcz16_0
                    try clear hcz16_1
                    try clear hcz16_2
                    try clear hcz16_3
                    try clear hcz16_4
                    try clear hcz16_5
                    try clear hcz16_6
                    try clear hcz16_7
                    try clear hcz16_8
                    try clear hcz19_0
                    try clear hcz19_1
                    try clear hcz19_2
                    try clear hcz19_3
                    try clear hcz19_4
                    try clear hcz19_5
                    try clear hcz19_6
                    try clear hcz19_7
                    try clear hcz19_8
                    try clear hcz24_0
                    try clear hcz24_1
                    try clear hcz24_2
                    try clear hcz24_3
                    try clear hcz24_4
                    try clear hcz24_5
                    try clear hcz24_6
                    try clear hcz24_7
                    try clear hcz24_8
                    try clear hcz32_0
                    try clear hcz32_1
                    try clear hcz32_2
                    try clear hcz32_3
                    try clear hcz32_4
                    try clear hcz32_5
                    try clear hcz32_6
                    try clear hcz32_7
                    try clear hcz32_8
                    try clear hfz16_0
                    try clear hfz16_1
                    try clear hfz16_2
                    try clear hfz16_3
                    try clear hfz16_4
                    try clear hfz16_5
                    try clear hfz16_6
                    try clear hfz16_7
                    try clear hfz16_8
                    try clear hfz19_0
                    try clear hfz19_1
                    try clear hfz19_2
                    try clear hfz19_3
                    try clear hfz19_4
                    try clear hfz19_5
                    try clear hfz19_6
                    try clear hfz19_7
                    try clear hfz19_8
                    try clear hfz24_0
                    try clear hfz24_1
                    try clear hfz24_2
                    try clear hfz24_3
                    try clear hfz24_4
                    try clear hfz24_5
                    try clear hfz24_6
                    try clear hfz24_7
                    try clear hfz24_8
                    try clear hfz32_0
                    try clear hfz32_1
                    try clear hfz32_2
                    try clear hfz32_3
                    try clear hfz32_4
                    try clear hfz32_5
                    try clear hfz32_6
                    try clear hfz32_7
                    try clear hfz32_8
                    try clear hx127_0
                    try clear hx128_0
                    try clear hx129_0
                    try clear hx130_0
                    try clear hx134_0
                    try clear p1
                    try clear p12
                    try clear p127
                    try clear p128
                    try clear p129
                    try clear p13
                    try clear p130
                    try clear p134
                    try clear p2
                    try clear p6
                    try clear q1
                    try clear q12
                    try clear q127
                    try clear q128
                    try clear q129
                    try clear q13
                    try clear q130
                    try clear q134
                    obtain ⟨kq, x8_33, rfl, HA, HJ33, BK123, HB⟩ := hcut
                    cases kq with
                    | zero => exact absurd HA.out (by simp [dragomanref03_Get.j4])
                    | succ kj33 =>
                      have H := HA.out
                      clear HA
                      simp only [dragomanref03_Get.j4] at H
                      have H' := Aside0.mk H
                      clear H
                      go_wp2
                      go_loopg [8, 9] kj33 (fun kq v8 v9 w' => ∃ (x8_4 : Int) (x9_4 : Int), v8 = .int .i32 x8_4 ∧ v9 = .int .i64 x9_4 ∧ Aside0 (dragomanref03_Get.l1 kq l0 x3_1 x8_4 x9_4 = some (r1, r2, r3, r4, r5, r6, r7, r8, r9)) ∧ Aside0 (kq ≤ kj33) ∧ Aside0 (w'.heap[gb123]? = some (.cells #[.int .i64 x124000_1, .int .i64 x124001_1, .int .i64 x124002_1, .int .i32 x124003_1, .int .i32 x124004_1, .int .i64 x124005_1, .int .i64 x124006_1, .int .u32 x124007_1, .int .i32 x124008_1] 51 (0, 0))) ∧ Aside0 (Below w.heap.size w w'))
                      case atStart => exact ⟨(x8_33), (1), (by first | rfl | (simp; done) | (simp [*]; done)), (by first | rfl | (simp; done) | (simp [*]; done)), H', ⟨Nat.le_refl _⟩, ⟨by (with_reducible repeat (first | refine blk_drewN ?_ _ | refine blk_drew ?_ | refine blk_alloc ?_ _)); exact BK123.out⟩, ⟨by repeat (first | (with_reducible first | exact HB.out | apply below_alloc | apply pw_below_drewN | apply below_drew1 | refine below_set ?_ GE123.out) | exact HB.out)⟩⟩
                      case round =>
                        clear H'
                        try clear c1
                        try clear p1
                        try clear q1
                        try clear hx1
                        try clear qi1
                        try clear c2
                        try clear p2
                        try clear c3
                        try clear p3
                        try clear c4
                        try clear c4b0
                        try clear c5
                        try clear c5b0
                        try clear c5b1
                        try clear c6
                        try clear c6b0
                        try clear c6b1
                        try clear p6
                        try clear c10
                        try clear c10b0
                        try clear c11
                        try clear c12
                        try clear c12b0
                        try clear p12
                        try clear q12
                        try clear hx12
                        try clear c13
                        try clear c13b0
                        try clear p13
                        try clear q13
                        try clear hx13
                        try clear qi13
                        try clear c14
                        try clear c14b0
                        try clear c17
                        try clear c17b0
                        try clear c20
                        try clear c20b0
                        try clear c20b1
                        try clear c21
                        try clear c21b0
                        try clear c22
                        try clear c22b0
                        try clear c25
                        try clear c25b0
                        try clear c25b1
                        try clear c26
                        try clear c26b0
                        try clear c26b1
                        try clear c30
                        try clear c30b0
                        try clear c30b1
                        try clear c31
                        try clear p32
                        try clear c33
                        try clear c33b0
                        try clear c33b1
                        try clear c35
                        try clear c35b0
                        try clear c37
                        try clear c37b0
                        try clear c37b1
                        try clear c39
                        try clear c39b0
                        try clear c39b1
                        try clear hcz16_0
                        try clear hcz16_1
                        try clear hcz16_2
                        try clear hcz16_3
                        try clear hcz16_4
                        try clear hcz16_5
                        try clear hcz16_6
                        try clear hcz16_7
                        try clear hcz16_8
                        try clear hcz19_0
                        try clear hcz19_1
                        try clear hcz19_2
                        try clear hcz19_3
                        try clear hcz19_4
                        try clear hcz19_5
                        try clear hcz19_6
                        try clear hcz19_7
                        try clear hcz19_8
                        try clear hcz24_0
                        try clear hcz24_1
                        try clear hcz24_2
                        try clear hcz24_3
                        try clear hcz24_4
                        try clear hcz24_5
                        try clear hcz24_6
                        try clear hcz24_7
                        try clear hcz24_8
                        try clear hcz32_0
                        try clear hcz32_1
                        try clear hcz32_2
                        try clear hcz32_3
                        try clear hcz32_4
                        try clear hcz32_5
                        try clear hcz32_6
                        try clear hcz32_7
                        try clear hcz32_8
                        try clear hfz16_0
                        try clear hfz16_1
                        try clear hfz16_2
                        try clear hfz16_3
                        try clear hfz16_4
                        try clear hfz16_5
                        try clear hfz16_6
                        try clear hfz16_7
                        try clear hfz16_8
                        try clear hfz19_0
                        try clear hfz19_1
                        try clear hfz19_2
                        try clear hfz19_3
                        try clear hfz19_4
                        try clear hfz19_5
                        try clear hfz19_6
                        try clear hfz19_7
                        try clear hfz19_8
                        try clear hfz24_0
                        try clear hfz24_1
                        try clear hfz24_2
                        try clear hfz24_3
                        try clear hfz24_4
                        try clear hfz24_5
                        try clear hfz24_6
                        try clear hfz24_7
                        try clear hfz24_8
                        try clear hfz32_0
                        try clear hfz32_1
                        try clear hfz32_2
                        try clear hfz32_3
                        try clear hfz32_4
                        try clear hfz32_5
                        try clear hfz32_6
                        try clear hfz32_7
                        try clear hfz32_8
                        try clear hx127_0
                        try clear hx128_0
                        try clear hx129_0
                        try clear hx130_0
                        try clear hx134_0
                        try clear p1
                        try clear p12
                        try clear p127
                        try clear p128
                        try clear p129
                        try clear p13
                        try clear p130
                        try clear p134
                        try clear p2
                        try clear p3
                        try clear p32
                        try clear p6
                        try clear q1
                        try clear q12
                        try clear q127
                        try clear q128
                        try clear q129
                        try clear q13
                        try clear q130
                        try clear q134
                        obtain ⟨x8_4, x9_4, rfl, rfl, HA, HK4, BK123, HB⟩ := hrel
                        cases gk with
                        | zero => exact absurd HA.out (by simp [dragomanref03_Get.l1])
                        | succ k4 =>
                          have H := HA.out
                          clear HA
                          simp only [dragomanref03_Get.l1] at H
                          by_cases c40 : x9_4 < x3_1
                          · rw [if_pos c40] at H
                            have c40b0 : decide (x9_4 < x3_1) = true := decide_eq_true c40
                            clear c40
                            by_cases c41 : 0 ≤ x9_4
                            · rw [if_pos c41] at H
                              have c41b0 : decide (0 ≤ x9_4) = true := decide_eq_true c41
                              clear c41
                              by_cases c42 : x9_4 < (l0.length : Int)
                              · rw [if_pos c42] at H
                                have c42b0 : decide (x9_4 < (l0.length : Int)) = true := decide_eq_true c42
                                clear c42
                                have H' := Aside0.mk H
                                clear H
                                have p135 : 0 ≤ (x9_4 : Int) := of_decide_eq_true (by first | (with_reducible assumption) | assumption)
                                have q135 : x9_4 < (l0.length : Int) := of_decide_eq_true (by first | (with_reducible assumption) | assumption)
                                obtain ⟨ad135, e135, hx135_0⟩ := Kd.at_int HR0.out x9_4 p135 q135
                                obtain rfl : ad134 = ad135 := (by injection e135)
                                replace hx135_0 := (HB.out.cell (World.block_lt_of_cell? w _ hx135_0)).trans hx135_0
                                replace p135 := eq_true p135
                                replace q135 := eq_true q135
                                go_wp2
                                go_roundg k4
                                case measure => have := HJ1.out; have := HJ27.out; have := HJ33.out; have := HK4.out; omega
                                case rel => exact ⟨(wrap32 ((wrap32 (64 * x8_4)) + (Int.tmod (wrap32 (rd l0 x9_4)) 64))), (wrap64 (x9_4 + 1)), (by first | rfl | (simp; done) | (simp [*]; done)), (by first | rfl | (simp; done) | (simp [*]; done)), H', ⟨by have := HJ1.out; have := HJ27.out; have := HJ33.out; have := HK4.out; omega⟩, ⟨by (with_reducible repeat (first | refine blk_drewN ?_ _ | refine blk_drew ?_ | refine blk_alloc ?_ _)); exact BK123.out⟩, ⟨by repeat (first | (with_reducible first | exact HB.out | apply below_alloc | apply pw_below_drewN | apply below_drew1 | refine below_set ?_ GE123.out) | exact HB.out)⟩⟩
                              · rw [if_neg c42] at H
                                exact absurd H (by simp)
                            · rw [if_neg c41] at H
                              exact absurd H (by simp)
                          · rw [if_neg c40] at H
                            have c40b0 : decide (x9_4 < x3_1) = false := decide_eq_false c40
                            clear c40
                            simp only [Option.some.injEq, Prod.mk.injEq] at H
                            obtain ⟨rfl, rfl, rfl, rfl, rfl, rfl, rfl, rfl, rfl⟩ := H
                            have hcz43_0 : wr.cell? ⟨gb123, 0, none⟩ = some (.int .i64 x124000_1) := (blk_cell BK123.out 0).trans rfl
                            have hcz43_1 : wr.cell? ⟨gb123, 1, none⟩ = some (.int .i64 x124001_1) := (blk_cell BK123.out 1).trans rfl
                            have hcz43_2 : wr.cell? ⟨gb123, 2, none⟩ = some (.int .i64 x124002_1) := (blk_cell BK123.out 2).trans rfl
                            have hcz43_3 : wr.cell? ⟨gb123, 3, none⟩ = some (.int .i32 x124003_1) := (blk_cell BK123.out 3).trans rfl
                            have hcz43_4 : wr.cell? ⟨gb123, 4, none⟩ = some (.int .i32 x124004_1) := (blk_cell BK123.out 4).trans rfl
                            have hcz43_5 : wr.cell? ⟨gb123, 5, none⟩ = some (.int .i64 x124005_1) := (blk_cell BK123.out 5).trans rfl
                            have hcz43_6 : wr.cell? ⟨gb123, 6, none⟩ = some (.int .i64 x124006_1) := (blk_cell BK123.out 6).trans rfl
                            have hcz43_7 : wr.cell? ⟨gb123, 7, none⟩ = some (.int .u32 x124007_1) := (blk_cell BK123.out 7).trans rfl
                            have hcz43_8 : wr.cell? ⟨gb123, 8, none⟩ = some (.int .i32 x124008_1) := (blk_cell BK123.out 8).trans rfl
                            have hfz43_0 := blk_frozen BK123.out 0
                            have hfz43_1 := blk_frozen BK123.out 1
                            have hfz43_2 := blk_frozen BK123.out 2
                            have hfz43_3 := blk_frozen BK123.out 3
                            have hfz43_4 := blk_frozen BK123.out 4
                            have hfz43_5 := blk_frozen BK123.out 5
                            have hfz43_6 := blk_frozen BK123.out 6
                            have hfz43_7 := blk_frozen BK123.out 7
                            have hfz43_8 := blk_frozen BK123.out 8
                            go_wp2
                            refine bodyPost_ret (results_cell_row rfl _ _ gb123 51 #[.int .i64 0, .int .i64 x3_1, .int .i64 1, .int .i32 x8_4, .int .i32 0, .int .i64 0, .int .i64 0, .int .u32 0, .int .i32 0] (0, 0) _ rfl (by (with_reducible repeat (first | refine blk_drewN ?_ _ | refine blk_drew ?_ | refine blk_alloc ?_ _)); refine blk_put (cs := #[.int .i64 0, .int .i64 x3_1, .int .i64 1, .int .i32 x8_4, .int .i32 0, .int .i64 0, .int .i64 0, .int .u32 0, .int .i32 x124008_1]) ?_ 8 _ rfl; (with_reducible repeat (first | refine blk_drewN ?_ _ | refine blk_drew ?_ | refine blk_alloc ?_ _)); refine blk_put (cs := #[.int .i64 0, .int .i64 x3_1, .int .i64 1, .int .i32 x8_4, .int .i32 0, .int .i64 0, .int .i64 0, .int .u32 x124007_1, .int .i32 x124008_1]) ?_ 7 _ rfl; (with_reducible repeat (first | refine blk_drewN ?_ _ | refine blk_drew ?_ | refine blk_alloc ?_ _)); refine blk_put (cs := #[.int .i64 0, .int .i64 x3_1, .int .i64 1, .int .i32 x8_4, .int .i32 0, .int .i64 0, .int .i64 x124006_1, .int .u32 x124007_1, .int .i32 x124008_1]) ?_ 6 _ rfl; (with_reducible repeat (first | refine blk_drewN ?_ _ | refine blk_drew ?_ | refine blk_alloc ?_ _)); refine blk_put (cs := #[.int .i64 0, .int .i64 x3_1, .int .i64 1, .int .i32 x8_4, .int .i32 0, .int .i64 x124005_1, .int .i64 x124006_1, .int .u32 x124007_1, .int .i32 x124008_1]) ?_ 5 _ rfl; (with_reducible repeat (first | refine blk_drewN ?_ _ | refine blk_drew ?_ | refine blk_alloc ?_ _)); refine blk_put (cs := #[.int .i64 0, .int .i64 x3_1, .int .i64 1, .int .i32 x8_4, .int .i32 x124004_1, .int .i64 x124005_1, .int .i64 x124006_1, .int .u32 x124007_1, .int .i32 x124008_1]) ?_ 4 _ rfl; (with_reducible repeat (first | refine blk_drewN ?_ _ | refine blk_drew ?_ | refine blk_alloc ?_ _)); refine blk_put (cs := #[.int .i64 0, .int .i64 x3_1, .int .i64 1, .int .i32 x124003_1, .int .i32 x124004_1, .int .i64 x124005_1, .int .i64 x124006_1, .int .u32 x124007_1, .int .i32 x124008_1]) ?_ 3 _ rfl; (with_reducible repeat (first | refine blk_drewN ?_ _ | refine blk_drew ?_ | refine blk_alloc ?_ _)); refine blk_put (cs := #[.int .i64 0, .int .i64 x3_1, .int .i64 x124002_1, .int .i32 x124003_1, .int .i32 x124004_1, .int .i64 x124005_1, .int .i64 x124006_1, .int .u32 x124007_1, .int .i32 x124008_1]) ?_ 2 _ rfl; (with_reducible repeat (first | refine blk_drewN ?_ _ | refine blk_drew ?_ | refine blk_alloc ?_ _)); refine blk_put (cs := #[.int .i64 0, .int .i64 x124001_1, .int .i64 x124002_1, .int .i32 x124003_1, .int .i32 x124004_1, .int .i64 x124005_1, .int .i64 x124006_1, .int .u32 x124007_1, .int .i32 x124008_1]) ?_ 1 _ rfl; (with_reducible repeat (first | refine blk_drewN ?_ _ | refine blk_drew ?_ | refine blk_alloc ?_ _)); refine blk_put (cs := #[.int .i64 x124000_1, .int .i64 x124001_1, .int .i64 x124002_1, .int .i32 x124003_1, .int .i32 x124004_1, .int .i64 x124005_1, .int .i64 x124006_1, .int .u32 x124007_1, .int .i32 x124008_1]) ?_ 0 _ rfl; (with_reducible repeat (first | refine blk_drewN ?_ _ | refine blk_drew ?_ | refine blk_alloc ?_ _)); exact BK123.out) Try.underlying51 rfl (by kernel_rfl)) rfl ?_
                            exact ⟨by first | rfl | (simp [errW_none, errW_some] <;> rfl) | (simp [*, errW_none, errW_some] <;> rfl), by repeat (first | (with_reducible first | exact HB.out | apply below_alloc | apply pw_below_drewN | apply below_drew1 | refine below_set ?_ GE123.out) | exact HB.out)⟩
                · rw [if_neg c33] at H
                  exact absurd H (by simp)
        · rw [if_neg c26] at H
          exact absurd H (by simp)
      · rw [if_neg c25] at H
        exact absurd H (by simp)

end Go.Proofs.Ytkbblppoalgkmaa.PDenseTells
