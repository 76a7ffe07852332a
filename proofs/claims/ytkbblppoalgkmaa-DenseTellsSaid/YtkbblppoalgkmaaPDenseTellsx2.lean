-- PRINTED BY print.sh 35421559b90ae4d0a3588c463048766b98c2df88dd9212a6774a882060cdf62d: not written by this session
import Derived.Test.YtkbblppoalgkmaaPDenseTellsx0
import Derived.Test.YtkbblppoalgkmaaPDenseTellsx1
namespace Go.Proofs.Ytkbblppoalgkmaa.PDenseTells
open Go.RowKit Go.Proofs.YtkbblppoalgkmaaW.PrintWords Go.Proofs.YtkbblppoalgkmaaW.PrintLast Go.Proofs.YtkbblppoalgkmaaW.PrintMore
attribute [local go_sem] max2_int min2_int max_two min_two max_three min_three max_four min_four   -- for this text's walks alone
set_option linter.unusedVariables false
set_option linter.unusedSimpArgs false

/-! ### utf8_Valid: function 14 -/
def utf8_Valid.l0 : Nat → List Int → Int → Option (Int × Bool)
  | 0, _, _ => none
  | k + 1, x0, x4 => if x4 < (x0.length : Int) then (if 0 ≤ x4 then (if x4 ≤ (x0.length : Int) then ((utf8_Get.f k (x0.drop (x4 : Int).toNat)).bind fun bt109 => (if bt109.1 = 0 then (utf8_Valid.l0 k x0 (wrap64 (x4 + bt109.2.1))) else (some (x4, false)))) else (none)) else (none)) else (some (x4, true))
def utf8_Valid.f (k : Nat) (l0 : List Int) : Option (Int × Bool) := utf8_Valid.l0 k l0 0
theorem utf8_Valid.mono_l : ∀ k, (∀ y0 y1, LeO (utf8_Valid.l0 k y0 y1) (utf8_Valid.l0 (k + 1) y0 y1))
  | 0 => fun _ _ r h => by simp [utf8_Valid.l0] at h
  | k + 1 => by
    have ih0 := utf8_Valid.mono_l k
    · intro y0 y1
      unfold utf8_Valid.l0
      repeat' first
      | (with_reducible exact ih0 _ _)
      | (with_reducible exact utf8_Get.mono _ _)
      | (with_reducible exact LeO.refl _)
      | (with_reducible exact LeO.none _)
      | (with_reducible refine LeO.ite ?_ ?_)
      | (with_reducible refine LeO.bind ?_ (fun _ => ?_))
      | exact ih0 _ _
      | exact utf8_Get.mono _ _
      | exact LeO.none _
      | refine LeO.ite ?_ ?_
      | refine LeO.bind ?_ (fun _ => ?_)
theorem utf8_Valid.mono : ∀ a0 k, LeO (utf8_Valid.f k a0) (utf8_Valid.f (k + 1) a0) := by
  intro a0 k
  have ih0 := utf8_Valid.mono_l k
  unfold utf8_Valid.f
  repeat' first
      | (with_reducible exact ih0 _ _)
      | (with_reducible exact utf8_Get.mono _ _)
      | (with_reducible exact LeO.refl _)
      | (with_reducible exact LeO.none _)
      | (with_reducible refine LeO.ite ?_ ?_)
      | (with_reducible refine LeO.bind ?_ (fun _ => ?_))
      | exact ih0 _ _
      | exact utf8_Get.mono _ _
      | exact LeO.none _
      | refine LeO.ite ?_ ?_
      | refine LeO.bind ?_ (fun _ => ?_)
set_option maxHeartbeats 8000000 in
set_option maxRecDepth 100000 in
theorem utf8_Valid.calls (k : Nat) (A0 : Option Addr) (c0 : Nat) (l0 : List Int) (r1 : Int) (r2 : Bool) (w : World) (hr0 : Kd.C (Kd.int .u8) w A0 l0.length l0) (hc0 : l0.length ≤ c0) (h : utf8_Valid.f k l0 = some (r1, r2)) :
    Calls Try.prog 14 #[.slice A0 l0.length c0] w fun e w' => e = .returned (.tuple #[.int .i64 r1, .bool r2]) ∧ Below w.heap.size w w' := by
  have hu51 := Try.underlying51
  have HR0 := Aside0.mk hr0
  have HC0 := Aside0.mk hc0
  clear hr0 hc0
  have HB := Aside0.mk (Below.refl w.heap.size w)
  have H : (utf8_Valid.l0 k l0 0) = some (r1, r2) := h
  clear h
  have H' := Aside0.mk H
  clear H
  go_enter Try.func14, Try.ntmps14
  go_wp2
  go_loopg [4] k (fun kq v4 w' => ∃ (x4_1 : Int), v4 = .int .i64 x4_1 ∧ Aside0 (utf8_Valid.l0 kq l0 x4_1 = some (r1, r2)) ∧ Aside0 (kq ≤ k) ∧ Aside0 (Below w.heap.size w w'))
  case atStart => exact ⟨(0), (by first | rfl | (simp; done) | (simp [*]; done)), H', ⟨Nat.le_refl _⟩, ⟨by repeat (first | (with_reducible first | exact HB.out | apply below_alloc | apply pw_below_drewN | apply below_drew1) | exact HB.out)⟩⟩
  case round =>
    clear H'
    try clear c1
    obtain ⟨x4_1, rfl, HA, HK1, HB⟩ := hrel
    cases gk with
    | zero => exact absurd HA.out (by simp [utf8_Valid.l0])
    | succ k1 =>
      have H := HA.out
      clear HA
      simp only [utf8_Valid.l0] at H
      by_cases c2 : x4_1 < (l0.length : Int)
      · rw [if_pos c2] at H
        have c2b0 : decide (x4_1 < (l0.length : Int)) = true := decide_eq_true c2
        clear c2
        by_cases c3 : 0 ≤ x4_1
        · rw [if_pos c3] at H
          have c3b0 := eq_true c3
          have c3b1 : decide (0 ≤ x4_1) = true := decide_eq_true c3
          clear c3
          by_cases c4 : x4_1 ≤ (l0.length : Int)
          · rw [if_pos c4] at H
            have c4b0 := eq_true c4
            have c4b1 : decide (x4_1 ≤ (l0.length : Int)) = true := decide_eq_true c4
            clear c4
            replace H := Option.bind_eq_some_iff.mp H
            obtain ⟨⟨t109, t110, t111, t112, t113, t114, t115, t116, t117⟩, A50, H⟩ := H
            replace H : (if t109 = 0 then (utf8_Valid.l0 k1 l0 (wrap64 (x4_1 + t110))) else (some (x4_1, false))) = some (r1, r2) := H
            have A5 := Aside0.mk A50
            clear A50
            by_cases c6 : t109 = 0
            · rw [if_pos c6] at H
              have c6b0 : (t109 == 0) = true := beq_iff_eq.mpr c6
              have c6b1 : (t109 != 0) = false := bne_eq_false_iff_eq.mpr c6
              clear c6
              have H' := Aside0.mk H
              clear H
              obtain ⟨i07, hi07, _, hsz7, _⟩ := info_parts info5
              obtain ⟨A7, hcut7, hA7, hC7⟩ := print_drop_of (P := Try.prog) (Value.int .u8) 0 41 5 .i64 Try.underlying41 hi07 hsz7 A0 c0 l0 x4_1 (of_decide_eq_true (by first | (with_reducible assumption) | assumption)) (of_decide_eq_true (by first | (with_reducible assumption) | assumption)) HC0.out
              have HR108 := Aside0.mk (Kd.C_of_reads (h1 := fun _ => rfl) (hA7 _ (Kd.reads_of_C HR0.out)))
              have HC108 := Aside0.mk hC7
              clear hA7 hC7 hi07 hsz7
              go_wp2_with (first | ((with_reducible refine gate_callee (f := 16) rfl ?_); refine goesL_ (some 13) rfl rfl Try.func16 (by kernel_rfl) rfl #[.slice A7 (l0.drop (x4_1 : Int).toNat).length (c0 - x4_1.toNat)] rfl (by (try simp only [List.map_toArray, List.map_cons, List.map_nil]); first | done | (rw [show (l0.drop (x4_1 : Int).toNat).length = (l0.length - x4_1.toNat) from List.length_drop] <;> rfl) | rfl | (simp only [List.length_drop, List.length_take]; rfl)) ?_; (with_reducible refine (utf8_Get.calls k1 _ _ (l0.drop (x4_1 : Int).toNat) t109 t110 t111 t112 t113 t114 t115 t116 t117 _ ?side1 ?side2 A5.out).mono ?_); (case side1 => repeat (first | exact (Kd.C_below HR108.out HB.out) | (with_reducible refine Kd.C_alloc ?_ _) | (with_reducible refine Kd.C_drewN ?_ _) | (with_reducible refine Kd.C_drew ?_))); (case side2 => exact HC108.out); rintro e w8 ⟨rfl, hb⟩; refine ⟨_, rfl, ?_⟩; have n0_ := Aside0.mk (below_step (by repeat (first | (with_reducible first | exact HB.out | apply below_alloc | apply pw_below_drewN | apply below_drew1) | exact HB.out)) hb); clear HB; have HB := n0_; clear n0_; (try clear hb); (try clear hb2); (try clear hk); (try clear hi)) | ((with_reducible refine gate_dst (N := 5) rfl ?_); refine box_event ?hg (N := 5) ?hd (cs := #[.int .i64 0, .int .i64 0, .int .i64 0, .int .i32 0, .int .i32 0, .int .i64 0, .int .i64 0, .int .u32 0, .int .i32 0]) (t := 51) ?hr ?_; (case hd => rfl); (case hg => rfl); (case hr => first | (go_simp; done) | (go_simp; rfl)); intro gb118 hg w9 hbox hb; have n0_ := Aside0.mk (below_step (by repeat (first | (with_reducible first | exact HB.out | apply below_alloc | apply pw_below_drewN | apply below_drew1) | exact HB.out)) hb); have n1_ := Aside0.mk (hbox); have n2_ := Aside0.mk ((by rw [hg]; exact (below_size (by repeat (first | (with_reducible first | exact HB.out | apply below_alloc | apply pw_below_drewN | apply below_drew1) | exact HB.out))) : w.heap.size ≤ gb118)); have n3_ := Aside0.mk ((by rw [hg]; exact (below_size (by repeat (first | (with_reducible first | exact HB.out | apply below_alloc | apply pw_below_drewN | apply below_drew1) | exact HB.out))) : w.heap.size ≤ gb118)); clear HB; have HB := n0_; have BK118 := n1_; have GW118 := n2_; have GE118 := n3_; clear n0_ n1_ n2_ n3_; clear hb hbox hg; have hcz10_0 : w9.cell? ⟨gb118, 0, none⟩ = some (.int .i64 0) := (blk_cell BK118.out 0).trans rfl; have hcz10_1 : w9.cell? ⟨gb118, 1, none⟩ = some (.int .i64 0) := (blk_cell BK118.out 1).trans rfl; have hcz10_2 : w9.cell? ⟨gb118, 2, none⟩ = some (.int .i64 0) := (blk_cell BK118.out 2).trans rfl; have hcz10_3 : w9.cell? ⟨gb118, 3, none⟩ = some (.int .i32 0) := (blk_cell BK118.out 3).trans rfl; have hcz10_4 : w9.cell? ⟨gb118, 4, none⟩ = some (.int .i32 0) := (blk_cell BK118.out 4).trans rfl; have hcz10_5 : w9.cell? ⟨gb118, 5, none⟩ = some (.int .i64 0) := (blk_cell BK118.out 5).trans rfl; have hcz10_6 : w9.cell? ⟨gb118, 6, none⟩ = some (.int .i64 0) := (blk_cell BK118.out 6).trans rfl; have hcz10_7 : w9.cell? ⟨gb118, 7, none⟩ = some (.int .u32 0) := (blk_cell BK118.out 7).trans rfl; have hcz10_8 : w9.cell? ⟨gb118, 8, none⟩ = some (.int .i32 0) := (blk_cell BK118.out 8).trans rfl; have hfz10_0 := blk_frozen BK118.out 0; have hfz10_1 := blk_frozen BK118.out 1; have hfz10_2 := blk_frozen BK118.out 2; have hfz10_3 := blk_frozen BK118.out 3; have hfz10_4 := blk_frozen BK118.out 4; have hfz10_5 := blk_frozen BK118.out 5; have hfz10_6 := blk_frozen BK118.out 6; have hfz10_7 := blk_frozen BK118.out 7; have hfz10_8 := blk_frozen BK118.out 8))
              go_roundg k1
              case measure => have := HK1.out; omega
              case rel => exact ⟨(wrap64 (x4_1 + t110)), (by first | rfl | (simp; done) | (simp [*]; done)), H', ⟨by have := HK1.out; omega⟩, ⟨by repeat (first | (with_reducible first | exact HB.out | apply below_alloc | apply pw_below_drewN | apply below_drew1 | refine below_set ?_ GE118.out) | exact HB.out)⟩⟩
            · rw [if_neg c6] at H
              have c6b0 : (t109 == 0) = false := beq_eq_false_iff_ne.mpr c6
              have c6b1 : (t109 != 0) = true := bne_iff_ne.mpr c6
              simp only [Option.some.injEq, Prod.mk.injEq] at H
              obtain ⟨rfl, rfl⟩ := H
              obtain ⟨i011, hi011, _, hsz11, _⟩ := info_parts info5
              obtain ⟨A11, hcut11, hA11, hC11⟩ := print_drop_of (P := Try.prog) (Value.int .u8) 0 41 5 .i64 Try.underlying41 hi011 hsz11 A0 c0 l0 x4_1 (of_decide_eq_true (by first | (with_reducible assumption) | assumption)) (of_decide_eq_true (by first | (with_reducible assumption) | assumption)) HC0.out
              have HR108 := Aside0.mk (Kd.C_of_reads (h1 := fun _ => rfl) (hA11 _ (Kd.reads_of_C HR0.out)))
              have HC108 := Aside0.mk hC11
              clear hA11 hC11 hi011 hsz11
              go_wp2_with (first | ((with_reducible refine gate_callee (f := 16) rfl ?_); refine goesL_ (some 13) rfl rfl Try.func16 (by kernel_rfl) rfl #[.slice A11 (l0.drop (x4_1 : Int).toNat).length (c0 - x4_1.toNat)] rfl (by (try simp only [List.map_toArray, List.map_cons, List.map_nil]); first | done | (rw [show (l0.drop (x4_1 : Int).toNat).length = (l0.length - x4_1.toNat) from List.length_drop] <;> rfl) | rfl | (simp only [List.length_drop, List.length_take]; rfl)) ?_; (with_reducible refine (utf8_Get.calls k1 _ _ (l0.drop (x4_1 : Int).toNat) t109 t110 t111 t112 t113 t114 t115 t116 t117 _ ?side1 ?side2 A5.out).mono ?_); (case side1 => repeat (first | exact (Kd.C_below HR108.out HB.out) | (with_reducible refine Kd.C_alloc ?_ _) | (with_reducible refine Kd.C_drewN ?_ _) | (with_reducible refine Kd.C_drew ?_))); (case side2 => exact HC108.out); rintro e w12 ⟨rfl, hb⟩; refine ⟨_, rfl, ?_⟩; have n0_ := Aside0.mk (below_step (by repeat (first | (with_reducible first | exact HB.out | apply below_alloc | apply pw_below_drewN | apply below_drew1) | exact HB.out)) hb); clear HB; have HB := n0_; clear n0_; (try clear hb); (try clear hb2); (try clear hk); (try clear hi)) | ((with_reducible refine gate_dst (N := 5) rfl ?_); refine box_event ?hg (N := 5) ?hd (cs := #[.int .i64 0, .int .i64 0, .int .i64 0, .int .i32 0, .int .i32 0, .int .i64 0, .int .i64 0, .int .u32 0, .int .i32 0]) (t := 51) ?hr ?_; (case hd => rfl); (case hg => rfl); (case hr => first | (go_simp; done) | (go_simp; rfl)); intro gb118 hg w13 hbox hb; have n0_ := Aside0.mk (below_step (by repeat (first | (with_reducible first | exact HB.out | apply below_alloc | apply pw_below_drewN | apply below_drew1) | exact HB.out)) hb); have n1_ := Aside0.mk (hbox); have n2_ := Aside0.mk ((by rw [hg]; exact (below_size (by repeat (first | (with_reducible first | exact HB.out | apply below_alloc | apply pw_below_drewN | apply below_drew1) | exact HB.out))) : w.heap.size ≤ gb118)); have n3_ := Aside0.mk ((by rw [hg]; exact (below_size (by repeat (first | (with_reducible first | exact HB.out | apply below_alloc | apply pw_below_drewN | apply below_drew1) | exact HB.out))) : w.heap.size ≤ gb118)); clear HB; have HB := n0_; have BK118 := n1_; have GW118 := n2_; have GE118 := n3_; clear n0_ n1_ n2_ n3_; clear hb hbox hg; have hcz14_0 : w13.cell? ⟨gb118, 0, none⟩ = some (.int .i64 0) := (blk_cell BK118.out 0).trans rfl; have hcz14_1 : w13.cell? ⟨gb118, 1, none⟩ = some (.int .i64 0) := (blk_cell BK118.out 1).trans rfl; have hcz14_2 : w13.cell? ⟨gb118, 2, none⟩ = some (.int .i64 0) := (blk_cell BK118.out 2).trans rfl; have hcz14_3 : w13.cell? ⟨gb118, 3, none⟩ = some (.int .i32 0) := (blk_cell BK118.out 3).trans rfl; have hcz14_4 : w13.cell? ⟨gb118, 4, none⟩ = some (.int .i32 0) := (blk_cell BK118.out 4).trans rfl; have hcz14_5 : w13.cell? ⟨gb118, 5, none⟩ = some (.int .i64 0) := (blk_cell BK118.out 5).trans rfl; have hcz14_6 : w13.cell? ⟨gb118, 6, none⟩ = some (.int .i64 0) := (blk_cell BK118.out 6).trans rfl; have hcz14_7 : w13.cell? ⟨gb118, 7, none⟩ = some (.int .u32 0) := (blk_cell BK118.out 7).trans rfl; have hcz14_8 : w13.cell? ⟨gb118, 8, none⟩ = some (.int .i32 0) := (blk_cell BK118.out 8).trans rfl; have hfz14_0 := blk_frozen BK118.out 0; have hfz14_1 := blk_frozen BK118.out 1; have hfz14_2 := blk_frozen BK118.out 2; have hfz14_3 := blk_frozen BK118.out 3; have hfz14_4 := blk_frozen BK118.out 4; have hfz14_5 := blk_frozen BK118.out 5; have hfz14_6 := blk_frozen BK118.out 6; have hfz14_7 := blk_frozen BK118.out 7; have hfz14_8 := blk_frozen BK118.out 8))
              go_ret2
              exact ⟨by first | rfl | (simp [errW_none, errW_some] <;> rfl) | (simp [*, errW_none, errW_some] <;> rfl), by repeat (first | (with_reducible first | exact HB.out | apply below_alloc | apply pw_below_drewN | apply below_drew1 | refine below_set ?_ GE118.out) | exact HB.out)⟩
          · rw [if_neg c4] at H
            exact absurd H (by simp)
        · rw [if_neg c3] at H
          exact absurd H (by simp)
      · rw [if_neg c2] at H
        have c2b0 : decide (x4_1 < (l0.length : Int)) = false := decide_eq_false c2
        clear c2
        simp only [Option.some.injEq, Prod.mk.injEq] at H
        obtain ⟨rfl, rfl⟩ := H
        go_wp2
        go_ret2
        exact ⟨by first | rfl | (simp [errW_none, errW_some] <;> rfl) | (simp [*, errW_none, errW_some] <;> rfl), by repeat (first | (with_reducible first | exact HB.out | apply below_alloc | apply pw_below_drewN | apply below_drew1) | exact HB.out)⟩

-- NOT PRINTED: function 7 (dense_New)

-- NOT PRINTED: function 8 (dense_Table_Byte)

-- NOT PRINTED: function 9 (dense_Table_Scalar)

/-! ### dragomanref03_bounds: function 20 -/
def dragomanref03_bounds.j0 : Nat → List Int → Int → Option (Int × Int)
  | 0, _, _ => none
  | k + 1, x0, x4 => if (x0.length : Int) ≥ x4 then (some (0, 0)) else (if (x0.length : Int) = 1 then (if 0 < (x0.length : Int) then (if (rd x0 0) = 224 then (some (160, 191)) else (if (rd x0 0) = 237 then (some (128, 159)) else (if (rd x0 0) = 240 then (some (144, 191)) else (if (rd x0 0) = 244 then (some (128, 143)) else (some (128, 191)))))) else (none)) else (some (128, 191)))
def dragomanref03_bounds.f (k : Nat) (l0 : List Int) : Option (Int × Int) := if (l0.length : Int) = 0 then (some (0, 244)) else (if 0 < (l0.length : Int) then (if (rd l0 0) ≥ 240 then (dragomanref03_bounds.j0 k l0 4) else (if (rd l0 0) ≥ 224 then (dragomanref03_bounds.j0 k l0 3) else (if (rd l0 0) ≥ 194 then (dragomanref03_bounds.j0 k l0 2) else (dragomanref03_bounds.j0 k l0 1)))) else (none))
theorem dragomanref03_bounds.mono_l : ∀ k, (∀ y0 y1, LeO (dragomanref03_bounds.j0 k y0 y1) (dragomanref03_bounds.j0 (k + 1) y0 y1))
  | 0 => fun _ _ r h => by simp [dragomanref03_bounds.j0] at h
  | k + 1 => by
    have ih0 := dragomanref03_bounds.mono_l k
    · intro y0 y1
      unfold dragomanref03_bounds.j0
      repeat' first
      | (with_reducible exact ih0 _ _)
      | (with_reducible exact LeO.refl _)
      | (with_reducible exact LeO.none _)
      | (with_reducible refine LeO.ite ?_ ?_)
      | (with_reducible refine LeO.bind ?_ (fun _ => ?_))
      | exact ih0 _ _
      | exact LeO.none _
      | refine LeO.ite ?_ ?_
      | refine LeO.bind ?_ (fun _ => ?_)
theorem dragomanref03_bounds.mono : ∀ a0 k, LeO (dragomanref03_bounds.f k a0) (dragomanref03_bounds.f (k + 1) a0) := by
  intro a0 k
  have ih0 := dragomanref03_bounds.mono_l k
  unfold dragomanref03_bounds.f
  repeat' first
      | (with_reducible exact ih0 _ _)
      | (with_reducible exact LeO.refl _)
      | (with_reducible exact LeO.none _)
      | (with_reducible refine LeO.ite ?_ ?_)
      | (with_reducible refine LeO.bind ?_ (fun _ => ?_))
      | exact ih0 _ _
      | exact LeO.none _
      | refine LeO.ite ?_ ?_
      | refine LeO.bind ?_ (fun _ => ?_)
set_option maxHeartbeats 8000000 in
set_option maxRecDepth 100000 in
theorem dragomanref03_bounds.calls (k : Nat) (A0 : Option Addr) (c0 : Nat) (l0 : List Int) (r1 : Int) (r2 : Int) (w : World) (hr0 : Kd.C (Kd.int .u8) w A0 l0.length l0) (hc0 : l0.length ≤ c0) (h : dragomanref03_bounds.f k l0 = some (r1, r2)) :
    Calls Try.prog 20 #[.slice A0 l0.length c0] w fun e w' => e = .returned (.tuple #[.int .u8 r1, .int .u8 r2]) ∧ Drawn0 w w' := by
  have HR0 := Aside0.mk hr0
  have HC0 := Aside0.mk hc0
  clear hr0 hc0
  have H : (if (l0.length : Int) = 0 then (some (0, 244)) else (if 0 < (l0.length : Int) then (if (rd l0 0) ≥ 240 then (dragomanref03_bounds.j0 k l0 4) else (if (rd l0 0) ≥ 224 then (dragomanref03_bounds.j0 k l0 3) else (if (rd l0 0) ≥ 194 then (dragomanref03_bounds.j0 k l0 2) else (dragomanref03_bounds.j0 k l0 1)))) else (none))) = some (r1, r2) := h
  clear h
  by_cases c2 : (l0.length : Int) = 0
  · rw [if_pos c2] at H
    have c2b0 : ((l0.length : Int) == 0) = true := beq_iff_eq.mpr c2
    have c2b1 : ((l0.length : Int) != 0) = false := bne_eq_false_iff_eq.mpr c2
    clear c2
    simp only [Option.some.injEq, Prod.mk.injEq] at H
    obtain ⟨rfl, rfl⟩ := H
    go_enter Try.func20, Try.ntmps20
    go_wp2
    go_ret2
    exact ⟨by first | rfl | (simp; done) | (simp [*]; done), by repeat (first | exact Drawn0.refl _ | apply Drawn0.step)⟩
  · rw [if_neg c2] at H
    have c2b0 : ((l0.length : Int) == 0) = false := beq_eq_false_iff_ne.mpr c2
    have c2b1 : ((l0.length : Int) != 0) = true := bne_iff_ne.mpr c2
    have c2b2 : ¬ (l0 = []) := fun h_ => c2 (by rw [h_]; rfl)
    have HC3 := Aside0.mk H
    clear H
    go_enter Try.func20, Try.ntmps20
    go_upto_block 0 with (fail)
    go_cut [4] (fun v4 wc => ∃ (kq : Nat) (x4_2 : Int), v4 = .int .i64 x4_2 ∧ Aside0 (dragomanref03_bounds.j0 kq l0 x4_2 = some (r1, r2)) ∧ Aside0 (kq ≤ k) ∧ Drawn0 w wc)
    case first =>
      have H := HC3.out
      clear HC3
      by_cases c4 : 0 < (l0.length : Int)
      · rw [if_pos c4] at H
        have c4b0 : decide (0 < (l0.length : Int)) = true := decide_eq_true c4
        have c4b1 : decide (0 < l0.length) = true := decide_eq_true (by omega)
        clear c4
        (first | rw [c4b0] | (simp only [i64_w, i32_w]; rw [c4b0]) | skip)
        by_cases c5 : (rd l0 0) ≥ 240
        · rw [if_pos c5] at H
          have c5b0 : decide (240 ≤ (rd l0 0)) = true := decide_eq_true c5
          clear c5
          have H' := Aside0.mk H
          clear H
          have p119 : 0 ≤ (0 : Int) := (by omega)
          have q119 : 0 < (l0.length : Int) := of_decide_eq_true (by first | (with_reducible assumption) | assumption)
          obtain ⟨ad119, e119, hx119_0⟩ := Kd.at_int HR0.out 0 p119 q119
          cases e119
          have qi119 : (0 < l0.length) = True := eq_true (by omega)
          (try rw [show ((0 : Int)).toNat = 0 from rfl] at hx119_0)
          (try rw [Addr.add_zero'] at hx119_0)
          replace p119 := eq_true p119
          replace q119 := eq_true q119
          go_wp2
          go_meet
          case rel => exact ⟨_, (4), (by first | rfl | (simp; done) | (simp [*]; done)), H', ⟨by first | omega | exact Nat.le_refl _⟩, by repeat (first | exact Drawn0.refl _ | apply Drawn0.step)⟩
        · rw [if_neg c5] at H
          have c5b0 : decide (240 ≤ (rd l0 0)) = false := decide_eq_false c5
          clear c5
          by_cases c6 : (rd l0 0) ≥ 224
          · rw [if_pos c6] at H
            have c6b0 : decide (224 ≤ (rd l0 0)) = true := decide_eq_true c6
            clear c6
            have H' := Aside0.mk H
            clear H
            have p119 : 0 ≤ (0 : Int) := (by omega)
            have q119 : 0 < (l0.length : Int) := of_decide_eq_true (by first | (with_reducible assumption) | assumption)
            obtain ⟨ad119, e119, hx119_0⟩ := Kd.at_int HR0.out 0 p119 q119
            cases e119
            have qi119 : (0 < l0.length) = True := eq_true (by omega)
            (try rw [show ((0 : Int)).toNat = 0 from rfl] at hx119_0)
            (try rw [Addr.add_zero'] at hx119_0)
            replace p119 := eq_true p119
            replace q119 := eq_true q119
            have p120 : 0 ≤ (0 : Int) := (by omega)
            have q120 : 0 < (l0.length : Int) := of_decide_eq_true (by first | (with_reducible assumption) | assumption)
            obtain ⟨ad120, e120, hx120_0⟩ := Kd.at_int HR0.out 0 p120 q120
            obtain rfl : ad119 = ad120 := (by injection e120)
            have qi120 : (0 < l0.length) = True := eq_true (by omega)
            (try rw [show ((0 : Int)).toNat = 0 from rfl] at hx120_0)
            (try rw [Addr.add_zero'] at hx120_0)
            replace p120 := eq_true p120
            replace q120 := eq_true q120
            go_wp2
            go_meet
            case rel => exact ⟨_, (3), (by first | rfl | (simp; done) | (simp [*]; done)), H', ⟨by first | omega | exact Nat.le_refl _⟩, by repeat (first | exact Drawn0.refl _ | apply Drawn0.step)⟩
          · rw [if_neg c6] at H
            have c6b0 : decide (224 ≤ (rd l0 0)) = false := decide_eq_false c6
            clear c6
            by_cases c7 : (rd l0 0) ≥ 194
            · rw [if_pos c7] at H
              have c7b0 : decide (194 ≤ (rd l0 0)) = true := decide_eq_true c7
              clear c7
              have H' := Aside0.mk H
              clear H
              have p119 : 0 ≤ (0 : Int) := (by omega)
              have q119 : 0 < (l0.length : Int) := of_decide_eq_true (by first | (with_reducible assumption) | assumption)
              obtain ⟨ad119, e119, hx119_0⟩ := Kd.at_int HR0.out 0 p119 q119
              cases e119
              have qi119 : (0 < l0.length) = True := eq_true (by omega)
              (try rw [show ((0 : Int)).toNat = 0 from rfl] at hx119_0)
              (try rw [Addr.add_zero'] at hx119_0)
              replace p119 := eq_true p119
              replace q119 := eq_true q119
              have p120 : 0 ≤ (0 : Int) := (by omega)
              have q120 : 0 < (l0.length : Int) := of_decide_eq_true (by first | (with_reducible assumption) | assumption)
              obtain ⟨ad120, e120, hx120_0⟩ := Kd.at_int HR0.out 0 p120 q120
              obtain rfl : ad119 = ad120 := (by injection e120)
              have qi120 : (0 < l0.length) = True := eq_true (by omega)
              (try rw [show ((0 : Int)).toNat = 0 from rfl] at hx120_0)
              (try rw [Addr.add_zero'] at hx120_0)
              replace p120 := eq_true p120
              replace q120 := eq_true q120
              have p121 : 0 ≤ (0 : Int) := (by omega)
              have q121 : 0 < (l0.length : Int) := of_decide_eq_true (by first | (with_reducible assumption) | assumption)
              obtain ⟨ad121, e121, hx121_0⟩ := Kd.at_int HR0.out 0 p121 q121
              obtain rfl : ad119 = ad121 := (by injection e121)
              have qi121 : (0 < l0.length) = True := eq_true (by omega)
              (try rw [show ((0 : Int)).toNat = 0 from rfl] at hx121_0)
              (try rw [Addr.add_zero'] at hx121_0)
              replace p121 := eq_true p121
              replace q121 := eq_true q121
              go_wp2
              go_meet
              case rel => exact ⟨_, (2), (by first | rfl | (simp; done) | (simp [*]; done)), H', ⟨by first | omega | exact Nat.le_refl _⟩, by repeat (first | exact Drawn0.refl _ | apply Drawn0.step)⟩
            · rw [if_neg c7] at H
              have c7b0 : decide (194 ≤ (rd l0 0)) = false := decide_eq_false c7
              clear c7
              have H' := Aside0.mk H
              clear H
              have p119 : 0 ≤ (0 : Int) := (by omega)
              have q119 : 0 < (l0.length : Int) := of_decide_eq_true (by first | (with_reducible assumption) | assumption)
              obtain ⟨ad119, e119, hx119_0⟩ := Kd.at_int HR0.out 0 p119 q119
              cases e119
              have qi119 : (0 < l0.length) = True := eq_true (by omega)
              (try rw [show ((0 : Int)).toNat = 0 from rfl] at hx119_0)
              (try rw [Addr.add_zero'] at hx119_0)
              replace p119 := eq_true p119
              replace q119 := eq_true q119
              have p120 : 0 ≤ (0 : Int) := (by omega)
              have q120 : 0 < (l0.length : Int) := of_decide_eq_true (by first | (with_reducible assumption) | assumption)
              obtain ⟨ad120, e120, hx120_0⟩ := Kd.at_int HR0.out 0 p120 q120
              obtain rfl : ad119 = ad120 := (by injection e120)
              have qi120 : (0 < l0.length) = True := eq_true (by omega)
              (try rw [show ((0 : Int)).toNat = 0 from rfl] at hx120_0)
              (try rw [Addr.add_zero'] at hx120_0)
              replace p120 := eq_true p120
              replace q120 := eq_true q120
              have p121 : 0 ≤ (0 : Int) := (by omega)
              have q121 : 0 < (l0.length : Int) := of_decide_eq_true (by first | (with_reducible assumption) | assumption)
              obtain ⟨ad121, e121, hx121_0⟩ := Kd.at_int HR0.out 0 p121 q121
              obtain rfl : ad119 = ad121 := (by injection e121)
              have qi121 : (0 < l0.length) = True := eq_true (by omega)
              (try rw [show ((0 : Int)).toNat = 0 from rfl] at hx121_0)
              (try rw [Addr.add_zero'] at hx121_0)
              replace p121 := eq_true p121
              replace q121 := eq_true q121
              go_wp2
              go_meet
              case rel => exact ⟨_, (1), (by first | rfl | (simp; done) | (simp [*]; done)), H', ⟨by first | omega | exact Nat.le_refl _⟩, by repeat (first | exact Drawn0.refl _ | apply Drawn0.step)⟩
      · rw [if_neg c4] at H
        exact absurd H (by simp)
    case rest =>
      clear HC3
      try clear p1
      try clear q1
      try clear hx1
      try clear qi1
      try clear c2
      try clear c2b0
      try clear c2b1
      try clear c2b2
      try clear p2
      try clear c4
      try clear c4b0
      try clear c4b1
      try clear c5
      try clear c5b0
      try clear c6
      try clear c6b0
      try clear c7
      try clear c7b0
      try clear hx119_0
      try clear hx120_0
      try clear hx121_0
      try clear p119
      try clear p120
      try clear p121
      try clear q119
      try clear q120
      try clear q121
      obtain ⟨kq, x4_2, rfl, HA, HJ2, ⟨mc2, rfl⟩⟩ := hcut
      cases kq with
      | zero => exact absurd HA.out (by simp [dragomanref03_bounds.j0])
      | succ kj2 =>
        have H := HA.out
        clear HA
        simp only [dragomanref03_bounds.j0] at H
        by_cases c8 : (l0.length : Int) ≥ x4_2
        · rw [if_pos c8] at H
          have c8b0 : decide (x4_2 ≤ (l0.length : Int)) = true := decide_eq_true c8
          clear c8
          simp only [Option.some.injEq, Prod.mk.injEq] at H
          obtain ⟨rfl, rfl⟩ := H
          go_wp2
          go_ret2
          exact ⟨by first | rfl | (simp; done) | (simp [*]; done), by repeat (first | exact Drawn0.refl _ | apply Drawn0.step)⟩
        · rw [if_neg c8] at H
          have c8b0 : decide (x4_2 ≤ (l0.length : Int)) = false := decide_eq_false c8
          clear c8
          by_cases c9 : (l0.length : Int) = 1
          · rw [if_pos c9] at H
            have c9b0 : ((l0.length : Int) == 1) = true := beq_iff_eq.mpr c9
            have c9b1 : ((l0.length : Int) != 1) = false := bne_eq_false_iff_eq.mpr c9
            clear c9
            by_cases c10 : 0 < (l0.length : Int)
            · rw [if_pos c10] at H
              have c10b0 : decide (0 < (l0.length : Int)) = true := decide_eq_true c10
              have c10b1 : decide (0 < l0.length) = true := decide_eq_true (by omega)
              clear c10
              by_cases c11 : (rd l0 0) = 224
              · rw [if_pos c11] at H
                have c11b0 : ((rd l0 0) == 224) = true := beq_iff_eq.mpr c11
                have c11b1 : ((rd l0 0) != 224) = false := bne_eq_false_iff_eq.mpr c11
                clear c11
                simp only [Option.some.injEq, Prod.mk.injEq] at H
                obtain ⟨rfl, rfl⟩ := H
                have p122 : 0 ≤ (0 : Int) := (by omega)
                have q122 : 0 < (l0.length : Int) := of_decide_eq_true (by first | (with_reducible assumption) | assumption)
                obtain ⟨ad122, e122, hx122_0⟩ := Kd.at_int HR0.out 0 p122 q122
                cases e122
                have qi122 : (0 < l0.length) = True := eq_true (by omega)
                (try rw [show ((0 : Int)).toNat = 0 from rfl] at hx122_0)
                (try rw [Addr.add_zero'] at hx122_0)
                replace p122 := eq_true p122
                replace q122 := eq_true q122
                go_wp2
                go_ret2
                exact ⟨by first | rfl | (simp; done) | (simp [*]; done), by repeat (first | exact Drawn0.refl _ | apply Drawn0.step)⟩
              · rw [if_neg c11] at H
                have c11b0 : ((rd l0 0) == 224) = false := beq_eq_false_iff_ne.mpr c11
                have c11b1 : ((rd l0 0) != 224) = true := bne_iff_ne.mpr c11
                by_cases c12 : (rd l0 0) = 237
                · rw [if_pos c12] at H
                  have c12b0 : ((rd l0 0) == 237) = true := beq_iff_eq.mpr c12
                  have c12b1 : ((rd l0 0) != 237) = false := bne_eq_false_iff_eq.mpr c12
                  clear c12
                  simp only [Option.some.injEq, Prod.mk.injEq] at H
                  obtain ⟨rfl, rfl⟩ := H
                  have p122 : 0 ≤ (0 : Int) := (by omega)
                  have q122 : 0 < (l0.length : Int) := of_decide_eq_true (by first | (with_reducible assumption) | assumption)
                  obtain ⟨ad122, e122, hx122_0⟩ := Kd.at_int HR0.out 0 p122 q122
                  cases e122
                  have qi122 : (0 < l0.length) = True := eq_true (by omega)
                  (try rw [show ((0 : Int)).toNat = 0 from rfl] at hx122_0)
                  (try rw [Addr.add_zero'] at hx122_0)
                  replace p122 := eq_true p122
                  replace q122 := eq_true q122
                  go_wp2
                  go_ret2
                  exact ⟨by first | rfl | (simp; done) | (simp [*]; done), by repeat (first | exact Drawn0.refl _ | apply Drawn0.step)⟩
                · rw [if_neg c12] at H
                  have c12b0 : ((rd l0 0) == 237) = false := beq_eq_false_iff_ne.mpr c12
                  have c12b1 : ((rd l0 0) != 237) = true := bne_iff_ne.mpr c12
                  by_cases c13 : (rd l0 0) = 240
                  · rw [if_pos c13] at H
                    have c13b0 : ((rd l0 0) == 240) = true := beq_iff_eq.mpr c13
                    have c13b1 : ((rd l0 0) != 240) = false := bne_eq_false_iff_eq.mpr c13
                    clear c13
                    simp only [Option.some.injEq, Prod.mk.injEq] at H
                    obtain ⟨rfl, rfl⟩ := H
                    have p122 : 0 ≤ (0 : Int) := (by omega)
                    have q122 : 0 < (l0.length : Int) := of_decide_eq_true (by first | (with_reducible assumption) | assumption)
                    obtain ⟨ad122, e122, hx122_0⟩ := Kd.at_int HR0.out 0 p122 q122
                    cases e122
                    have qi122 : (0 < l0.length) = True := eq_true (by omega)
                    (try rw [show ((0 : Int)).toNat = 0 from rfl] at hx122_0)
                    (try rw [Addr.add_zero'] at hx122_0)
                    replace p122 := eq_true p122
                    replace q122 := eq_true q122
                    go_wp2
                    go_ret2
                    exact ⟨by first | rfl | (simp; done) | (simp [*]; done), by repeat (first | exact Drawn0.refl _ | apply Drawn0.step)⟩
                  · rw [if_neg c13] at H
                    have c13b0 : ((rd l0 0) == 240) = false := beq_eq_false_iff_ne.mpr c13
                    have c13b1 : ((rd l0 0) != 240) = true := bne_iff_ne.mpr c13
                    by_cases c14 : (rd l0 0) = 244
                    · rw [if_pos c14] at H
                      have c14b0 : ((rd l0 0) == 244) = true := beq_iff_eq.mpr c14
                      have c14b1 : ((rd l0 0) != 244) = false := bne_eq_false_iff_eq.mpr c14
                      clear c14
                      simp only [Option.some.injEq, Prod.mk.injEq] at H
                      obtain ⟨rfl, rfl⟩ := H
                      have p122 : 0 ≤ (0 : Int) := (by omega)
                      have q122 : 0 < (l0.length : Int) := of_decide_eq_true (by first | (with_reducible assumption) | assumption)
                      obtain ⟨ad122, e122, hx122_0⟩ := Kd.at_int HR0.out 0 p122 q122
                      cases e122
                      have qi122 : (0 < l0.length) = True := eq_true (by omega)
                      (try rw [show ((0 : Int)).toNat = 0 from rfl] at hx122_0)
                      (try rw [Addr.add_zero'] at hx122_0)
                      replace p122 := eq_true p122
                      replace q122 := eq_true q122
                      go_wp2
                      go_ret2
                      exact ⟨by first | rfl | (simp; done) | (simp [*]; done), by repeat (first | exact Drawn0.refl _ | apply Drawn0.step)⟩
                    · rw [if_neg c14] at H
                      have c14b0 : ((rd l0 0) == 244) = false := beq_eq_false_iff_ne.mpr c14
                      have c14b1 : ((rd l0 0) != 244) = true := bne_iff_ne.mpr c14
                      simp only [Option.some.injEq, Prod.mk.injEq] at H
                      obtain ⟨rfl, rfl⟩ := H
                      have p122 : 0 ≤ (0 : Int) := (by omega)
                      have q122 : 0 < (l0.length : Int) := of_decide_eq_true (by first | (with_reducible assumption) | assumption)
                      obtain ⟨ad122, e122, hx122_0⟩ := Kd.at_int HR0.out 0 p122 q122
                      cases e122
                      have qi122 : (0 < l0.length) = True := eq_true (by omega)
                      (try rw [show ((0 : Int)).toNat = 0 from rfl] at hx122_0)
                      (try rw [Addr.add_zero'] at hx122_0)
                      replace p122 := eq_true p122
                      replace q122 := eq_true q122
                      go_wp2
                      go_ret2
                      exact ⟨by first | rfl | (simp; done) | (simp [*]; done), by repeat (first | exact Drawn0.refl _ | apply Drawn0.step)⟩
            · rw [if_neg c10] at H
              exact absurd H (by simp)
          · rw [if_neg c9] at H
            have c9b0 : ((l0.length : Int) == 1) = false := beq_eq_false_iff_ne.mpr c9
            have c9b1 : ((l0.length : Int) != 1) = true := bne_iff_ne.mpr c9
            simp only [Option.some.injEq, Prod.mk.injEq] at H
            obtain ⟨rfl, rfl⟩ := H
            go_wp2
            go_ret2
            exact ⟨by first | rfl | (simp; done) | (simp [*]; done), by repeat (first | exact Drawn0.refl _ | apply Drawn0.step)⟩

end Go.Proofs.Ytkbblppoalgkmaa.PDenseTells
