/- The statements' own trial of wide (dragomanlaw04.works) answers true. No condition. -/
import Derived.Test.YtflmpdfcbdfabaaWx
import Derived.Test.YtflmpdfcbdfabaaWt
namespace Go.Proofs.Ytflmpdfcbdfabaa.Wd
open Go.RowKit Go.Proofs.YtflmpdfcbdfabaaW.PrintWords Go.Proofs.YtflmpdfcbdfabaaW.PrintLast Go.Proofs.YtflmpdfcbdfabaaW.PrintMore
theorem litC (W : World) (e : Nat) (xs : List Int) (h : xs.length ≤ 9223372036854775807) : Kd.C (Kd.int .u8) (W.alloc (.cells (nums .u8 xs).toArray e)) (some ⟨W.heap.size, 0, none⟩) xs.length xs :=
  Kd.C_of_reads (own_reads' (own_lit W W.heap.size e .u8 xs (Nat.le_refl _) h))
theorem onA {w W w1 : World} {o : Obj} (h : Below w.heap.size w W) (k : Below (W.alloc o).heap.size (W.alloc o) w1) : Below w.heap.size w w1 := on (below_alloc h o) k
theorem works_got (W : World) : Calls Try.prog 11 #[.int .i64 4, .agg #[.int .i64 0, .int .i64 0, .int .u32 0, .int .i32 0], .slice (some ⟨W.heap.size, 0, none⟩) 4 4] (W.alloc (.cells #[.int .u8 61, .int .u8 216, .int .u8 0, .int .u8 222] 5)) fun en w' => en = .returned (gotV 0 4 1 128512 0) ∧ Below (W.alloc (.cells #[.int .u8 61, .int .u8 216, .int .u8 0, .int .u8 222] 5)).heap.size (W.alloc (.cells #[.int .u8 61, .int .u8 216, .int .u8 0, .int .u8 222] 5)) w' := by
  have hg : GP 2 true true [61, 216, 0, 222] 0 4 1 128512 := .pair rfl rfl (by decide) (by decide) (by decide)
  exact getC (A := some ⟨W.heap.size, 0, none⟩) (c := 4) (l := [61, 216, 0, 222]) _ (litC W 5 [61, 216, 0, 222] (by decide)) (by decide) (by intro x hx; unfold Byte; simp at hx; omega) (.plain 2 true false true 0 4 1 128512 rfl (by unfold Fit; simp) (by simp) hg (by decide))
theorem works_A (W : World) : Calls Try.prog 9 #[.int .i64 8, .agg #[.int .i64 0, .int .i64 0, .int .u32 0, .int .i32 0], .int .i32 65] W fun en w' => en = .returned (putV 0 ⟨#[0, 0, 254, 255, 0, 0, 0, 65]⟩ 1) ∧ Below W.heap.size W w' := by
  have h := setC W (.mOne (kind := 8) (mode := 0) (bits := 0) (acc := 0) (held := 0) (u := 65) 4 false false rfl (by unfold Fit; simp) (by decide) (.inl rfl) rfl)
  exact h
theorem works_no (W : World) : Calls Try.prog 9 #[.int .i64 9, .agg #[.int .i64 0, .int .i64 0, .int .u32 0, .int .i32 0], .int .i32 128512] W fun en w' => en = .returned (putV 11 ⟨#[]⟩ 0) ∧ Below W.heap.size W w' := by
  have h := setC W (.none (kind := 9) (mode := 0) (bits := 0) (acc := 0) (held := 0) (u := 128512) 2 false false false rfl (by unfold Fit; simp) (.inr ⟨rfl, rfl, by decide⟩))
  exact h
theorem field_err (a : Int) (s : ByteArray) (b c d f : Int) (w : World) : (Instr.field 27 (.agg #[.int .i64 a, .string s, .int .i64 b, .int .i64 c, .int .u32 d, .int .i32 f]) 0).run Try.prog w = .ok (.int .i64 a) w := by kernel_rfl
theorem field_bytes (a : Int) (s : ByteArray) (b c d f : Int) (w : World) : (Instr.field 27 (.agg #[.int .i64 a, .string s, .int .i64 b, .int .i64 c, .int .u32 d, .int .i32 f]) 1).run Try.prog w = .ok (.string s) w := by kernel_rfl
set_option maxRecDepth 100000 in
theorem worksC (w : World) : Calls Try.prog 15 #[] w fun e w' => e = .returned (.bool true) ∧ Below w.heap.size w w' := by
  have H1 := Lib.hid works_got
  have H2 := Lib.hid works_A
  have H3 := Lib.hid works_no
  unfold gotV at H1
  unfold putV at H2 H3
  go_enter Try.func15, Try.ntmps15
  go_wp2_with fail
  refine (H1.out _).mono ?_
  rintro e w1 ⟨rfl, hb1⟩
  have HB1 : Hid (Below w.heap.size w w1) := onA (Below.refl _ _) hb1
  clear hb1
  go_wp2_with fail
  refine (H2.out _).mono ?_
  rintro e w2 ⟨rfl, hb2⟩
  have GK := Lib.hid (blk_below (heap_alloc_new w1 (.cells #[.int .i64 0, .int .i64 4, .int .i64 1, .int .i32 128512, .int .i32 0, .int .i64 0, .int .i64 0, .int .u32 0, .int .i32 0] 32)) hb2)
  have HB2 : Hid (Below w.heap.size w w2) := onA HB1.out hb2
  clear hb2
  have g0 := blk_cell GK.out 0
  have g1 := blk_cell GK.out 1
  have g2 := blk_cell GK.out 2
  have g3 := blk_cell GK.out 3
  have g4 := blk_cell GK.out 4
  have g5 := blk_cell GK.out 5
  have g6 := blk_cell GK.out 6
  have g7 := blk_cell GK.out 7
  have g8 := blk_cell GK.out 8
  have hz : w1.heap.size < w2.heap.size := blk_lt GK.out
  go_wp2_with fail
  refine (H3.out _).mono ?_
  rintro e w4 ⟨rfl, hb4⟩
  have HB4 : Hid (Below w.heap.size w w4) := onA HB2.out hb4
  clear hb4
  have hf := field_err 11 ⟨#[]⟩ 0 0 0 0 w4
  go_wp2_with fail
  go_ret
  exact ⟨rfl, HB4.out⟩
end Go.Proofs.Ytflmpdfcbdfabaa.Wd
