/- What the document writes of a number in encodings of two and of four bytes, walked; and whole. No condition. -/
import Derived.Test.YtflmpdfcbdfabaaWt
import Derived.Test.YtflmpdfcbdfabaaWx
import Derived.Test.YtflmpdfcbdfabaaWq
namespace Go.Proofs.Ytflmpdfcbdfabaa.Wd
open Go.RowKit Go.Proofs.YtflmpdfcbdfabaaW.PrintWords Go.Proofs.YtflmpdfcbdfabaaW.PrintLast Go.Proofs.YtflmpdfcbdfabaaW.PrintMore Go.Proofs.Ytflmpdfcbdfabaa.Wq
set_option linter.unusedVariables false
attribute [local go_sem ↓] Go.wp_at_zero Go.wp_at_succ
set_option maxHeartbeats 4000000 in
set_option maxRecDepth 100000 in
theorem rset_kind (kind mode bits acc held u : Int) (w : World) (hk : shp kind mode = none) :
    Calls Try.prog 10 #[.int .i64 kind, stV mode bits acc held, .int .i32 u] w fun en w' => en = .returned (putV 5 ⟨#[]⟩ 0) ∧ Below w.heap.size w w' := by
  unfold stV
  have HK := Lib.hid hk
  clear hk
  go_enter Try.func10, Try.ntmps10
  go_wp2_with fail
  refine (rhasC_not _ HK.out).mono ?_
  rintro e w1 ⟨rfl, hd⟩
  have hb := hd.below
  have ST1 : Hid ((w1).heap[w.heap.size]? = some (.cells #[.int .i64 mode, .int .i64 bits, .int .u32 acc, .int .i32 held] 24 (0, 0))) := Lib.hid (blk_below (blk_alloc (heap_alloc_new _ _) _) hb)
  have RK1 : Hid ((w1).heap[w.heap.size + 1]? = some (.cells #[.int .i64 0, .string ⟨#[]⟩, .int .i64 0, .int .i64 0, .int .u32 0, .int .i32 0] 27 (0, 0))) := Lib.hid (blk_below (blk_second _ _ _) hb)
  have HB1 : Hid (Below w.heap.size w (w1)) := Lib.hid (on (below_alloc (below_alloc (Below.refl _ _) _) _) hb)
  clear hb hd
  have hz1 : w.heap.size + 1 < w1.heap.size := blk_lt RK1.out
  have hy1 : w.heap.size < w1.heap.size := by omega
  have r0 := blk_cell RK1.out 0
  have r1 := blk_cell RK1.out 1
  have r2 := blk_cell RK1.out 2
  have r3 := blk_cell RK1.out 3
  have r4 := blk_cell RK1.out 4
  have r5 := blk_cell RK1.out 5
  have q0 := blk_frozen RK1.out 0
  have q1 := blk_frozen RK1.out 1
  have q2 := blk_frozen RK1.out 2
  have q3 := blk_frozen RK1.out 3
  have q4 := blk_frozen RK1.out 4
  have q5 := blk_frozen RK1.out 5
  go_wp2_with fail
  refine bodyPost_ret (results_cell_row rfl _ _ (w.heap.size + 1) 27 _ (0, 0) _ rfl (put6 RK1.out _ _ _ _ _ _) Try.underlying27 rfl (by kernel_rfl)) rfl ?_
  exact ⟨rfl, below6 HB1.out (Nat.le_succ _) _ _ _ _ _ _⟩
set_option maxHeartbeats 4000000 in
set_option maxRecDepth 100000 in
theorem rset_state (kind mode bits acc held u n : Int) (pairs marks low : Bool) (w : World) (hk : shp kind mode = some (n, pairs, marks, low)) (hf : ¬ Fit marks mode bits acc held) :
    Calls Try.prog 10 #[.int .i64 kind, stV mode bits acc held, .int .i32 u] w fun en w' => en = .returned (putV 7 ⟨#[]⟩ 0) ∧ Below w.heap.size w w' := by
  have HFI : Hid (∀ W, Calls Try.prog 21 #[.int .i64 kind, .agg #[.int .i64 mode, .int .i64 bits, .int .u32 acc, .int .i32 held]] W fun e w' => e = .returned (.bool (decide (Fit marks mode bits acc held))) ∧ Below W.heap.size W w') := Lib.hid (fun W => rfitsC bits acc held W hk)
  unfold stV
  have HK := Lib.hid hk
  have HF := Lib.hid hf
  clear hk hf
  go_enter Try.func10, Try.ntmps10
  go_wp2_with fail
  refine (rhasC _ HK.out).mono ?_
  rintro e w1 ⟨rfl, hd⟩
  have hb := hd.below
  have ST1 : Hid ((w1).heap[w.heap.size]? = some (.cells #[.int .i64 mode, .int .i64 bits, .int .u32 acc, .int .i32 held] 24 (0, 0))) := Lib.hid (blk_below (blk_alloc (heap_alloc_new _ _) _) hb)
  have RK1 : Hid ((w1).heap[w.heap.size + 1]? = some (.cells #[.int .i64 0, .string ⟨#[]⟩, .int .i64 0, .int .i64 0, .int .u32 0, .int .i32 0] 27 (0, 0))) := Lib.hid (blk_below (blk_second _ _ _) hb)
  have HB1 : Hid (Below w.heap.size w (w1)) := Lib.hid (on (below_alloc (below_alloc (Below.refl _ _) _) _) hb)
  clear hb hd
  have hz1 : w.heap.size + 1 < w1.heap.size := blk_lt RK1.out
  have hy1 : w.heap.size < w1.heap.size := by omega
  have e0 := blk_cell ST1.out 0
  have e1 := blk_cell ST1.out 1
  have e2 := blk_cell ST1.out 2
  have e3 := blk_cell ST1.out 3
  go_wp2_with fail
  refine (HFI.out _).mono ?_
  rintro e w2 ⟨rfl, hb⟩
  have ST2 : Hid ((w2).heap[w.heap.size]? = some (.cells #[.int .i64 mode, .int .i64 bits, .int .u32 acc, .int .i32 held] 24 (0, 0))) := Lib.hid (blk_below ST1.out hb)
  have RK2 : Hid ((w2).heap[w.heap.size + 1]? = some (.cells #[.int .i64 0, .string ⟨#[]⟩, .int .i64 0, .int .i64 0, .int .u32 0, .int .i32 0] 27 (0, 0))) := Lib.hid (blk_below RK1.out hb)
  have HB2 : Hid (Below w.heap.size w (w2)) := Lib.hid (on HB1.out hb)
  clear hb ST1 RK1 HB1
  have hz2 : w.heap.size + 1 < w2.heap.size := blk_lt RK2.out
  have hy2 : w.heap.size < w2.heap.size := by omega
  rw [decide_eq_false HF.out]
  clear e0 e1 e2 e3
  have r0 := blk_cell RK2.out 0
  have r1 := blk_cell RK2.out 1
  have r2 := blk_cell RK2.out 2
  have r3 := blk_cell RK2.out 3
  have r4 := blk_cell RK2.out 4
  have r5 := blk_cell RK2.out 5
  have q0 := blk_frozen RK2.out 0
  have q1 := blk_frozen RK2.out 1
  have q2 := blk_frozen RK2.out 2
  have q3 := blk_frozen RK2.out 3
  have q4 := blk_frozen RK2.out 4
  have q5 := blk_frozen RK2.out 5
  go_wp2_with fail
  refine bodyPost_ret (results_cell_row rfl _ _ (w.heap.size + 1) 27 _ (0, 0) _ rfl (put6 RK2.out _ _ _ _ _ _) Try.underlying27 rfl (by kernel_rfl)) rfl ?_
  exact ⟨rfl, below6 HB2.out (Nat.le_succ _) _ _ _ _ _ _⟩
set_option maxHeartbeats 4000000 in
set_option maxRecDepth 100000 in
theorem rset_none_sc (kind mode bits acc held u n : Int) (pairs marks low : Bool) (w : World) (hk : shp kind mode = some (n, pairs, marks, low)) (hf : Fit marks mode bits acc held) (hs : ¬ Scal u) :
    Calls Try.prog 10 #[.int .i64 kind, stV mode bits acc held, .int .i32 u] w fun en w' => en = .returned (putV 11 ⟨#[]⟩ 0) ∧ Below w.heap.size w w' := by
  have HS := Lib.hid (decide_eq_false hs)
  clear hs
  have HFI : Hid (∀ W, Calls Try.prog 21 #[.int .i64 kind, .agg #[.int .i64 mode, .int .i64 bits, .int .u32 acc, .int .i32 held]] W fun e w' => e = .returned (.bool (decide (Fit marks mode bits acc held))) ∧ Below W.heap.size W w') := Lib.hid (fun W => rfitsC bits acc held W hk)
  unfold stV
  have HK := Lib.hid hk
  have HF := Lib.hid hf
  clear hk hf
  go_enter Try.func10, Try.ntmps10
  go_wp2_with fail
  refine (rhasC _ HK.out).mono ?_
  rintro e w1 ⟨rfl, hd⟩
  have hb := hd.below
  have ST1 : Hid ((w1).heap[w.heap.size]? = some (.cells #[.int .i64 mode, .int .i64 bits, .int .u32 acc, .int .i32 held] 24 (0, 0))) := Lib.hid (blk_below (blk_alloc (heap_alloc_new _ _) _) hb)
  have RK1 : Hid ((w1).heap[w.heap.size + 1]? = some (.cells #[.int .i64 0, .string ⟨#[]⟩, .int .i64 0, .int .i64 0, .int .u32 0, .int .i32 0] 27 (0, 0))) := Lib.hid (blk_below (blk_second _ _ _) hb)
  have HB1 : Hid (Below w.heap.size w (w1)) := Lib.hid (on (below_alloc (below_alloc (Below.refl _ _) _) _) hb)
  clear hb hd
  have hz1 : w.heap.size + 1 < w1.heap.size := blk_lt RK1.out
  have hy1 : w.heap.size < w1.heap.size := by omega
  have e0 := blk_cell ST1.out 0
  have e1 := blk_cell ST1.out 1
  have e2 := blk_cell ST1.out 2
  have e3 := blk_cell ST1.out 3
  go_wp2_with fail
  refine (HFI.out _).mono ?_
  rintro e w2 ⟨rfl, hb⟩
  have ST2 : Hid ((w2).heap[w.heap.size]? = some (.cells #[.int .i64 mode, .int .i64 bits, .int .u32 acc, .int .i32 held] 24 (0, 0))) := Lib.hid (blk_below ST1.out hb)
  have RK2 : Hid ((w2).heap[w.heap.size + 1]? = some (.cells #[.int .i64 0, .string ⟨#[]⟩, .int .i64 0, .int .i64 0, .int .u32 0, .int .i32 0] 27 (0, 0))) := Lib.hid (blk_below RK1.out hb)
  have HB2 : Hid (Below w.heap.size w (w2)) := Lib.hid (on HB1.out hb)
  clear hb ST1 RK1 HB1
  have hz2 : w.heap.size + 1 < w2.heap.size := blk_lt RK2.out
  have hy2 : w.heap.size < w2.heap.size := by omega
  rw [decide_eq_true HF.out]
  clear e0 e1 e2 e3
  go_wp2_with fail
  refine (rscalarC u _).mono ?_
  rintro e w3 ⟨rfl, hd⟩
  have hb := hd.below
  have ST3 : Hid ((w3).heap[w.heap.size]? = some (.cells #[.int .i64 mode, .int .i64 bits, .int .u32 acc, .int .i32 held] 24 (0, 0))) := Lib.hid (blk_below ST2.out hb)
  have RK3 : Hid ((w3).heap[w.heap.size + 1]? = some (.cells #[.int .i64 0, .string ⟨#[]⟩, .int .i64 0, .int .i64 0, .int .u32 0, .int .i32 0] 27 (0, 0))) := Lib.hid (blk_below RK2.out hb)
  have HB3 : Hid (Below w.heap.size w (w3)) := Lib.hid (on HB2.out hb)
  clear hb hd ST2 RK2 HB2
  have hz3 : w.heap.size + 1 < w3.heap.size := blk_lt RK3.out
  have hy3 : w.heap.size < w3.heap.size := by omega
  rw [HS.out]
  have r0 := blk_cell RK3.out 0
  have r1 := blk_cell RK3.out 1
  have r2 := blk_cell RK3.out 2
  have r3 := blk_cell RK3.out 3
  have r4 := blk_cell RK3.out 4
  have r5 := blk_cell RK3.out 5
  have q0 := blk_frozen RK3.out 0
  have q1 := blk_frozen RK3.out 1
  have q2 := blk_frozen RK3.out 2
  have q3 := blk_frozen RK3.out 3
  have q4 := blk_frozen RK3.out 4
  have q5 := blk_frozen RK3.out 5
  go_wp2_with fail
  refine bodyPost_ret (results_cell_row rfl _ _ (w.heap.size + 1) 27 _ (0, 0) _ rfl (put6 RK3.out _ _ _ _ _ _) Try.underlying27 rfl (by kernel_rfl)) rfl ?_
  exact ⟨rfl, below6 HB3.out (Nat.le_succ _) _ _ _ _ _ _⟩
set_option maxHeartbeats 4000000 in
set_option maxRecDepth 100000 in
theorem rset_none_9 (mode bits acc held u n : Int) (pairs marks low : Bool) (w : World) (hk : shp 9 mode = some (n, pairs, marks, low)) (hf : Fit marks mode bits acc held) (hs : Scal u) (hu : 65535 < u) :
    Calls Try.prog 10 #[.int .i64 9, stV mode bits acc held, .int .i32 u] w fun en w' => en = .returned (putV 11 ⟨#[]⟩ 0) ∧ Below w.heap.size w w' := by
  have HS := Lib.hid (decide_eq_true hs)
  clear hs
  have HFI : Hid (∀ W, Calls Try.prog 21 #[.int .i64 9, .agg #[.int .i64 mode, .int .i64 bits, .int .u32 acc, .int .i32 held]] W fun e w' => e = .returned (.bool (decide (Fit marks mode bits acc held))) ∧ Below W.heap.size W w') := Lib.hid (fun W => rfitsC bits acc held W hk)
  unfold stV
  have HK := Lib.hid hk
  have HF := Lib.hid hf
  clear hk hf
  go_enter Try.func10, Try.ntmps10
  go_wp2_with fail
  refine (rhasC _ HK.out).mono ?_
  rintro e w1 ⟨rfl, hd⟩
  have hb := hd.below
  have ST1 : Hid ((w1).heap[w.heap.size]? = some (.cells #[.int .i64 mode, .int .i64 bits, .int .u32 acc, .int .i32 held] 24 (0, 0))) := Lib.hid (blk_below (blk_alloc (heap_alloc_new _ _) _) hb)
  have RK1 : Hid ((w1).heap[w.heap.size + 1]? = some (.cells #[.int .i64 0, .string ⟨#[]⟩, .int .i64 0, .int .i64 0, .int .u32 0, .int .i32 0] 27 (0, 0))) := Lib.hid (blk_below (blk_second _ _ _) hb)
  have HB1 : Hid (Below w.heap.size w (w1)) := Lib.hid (on (below_alloc (below_alloc (Below.refl _ _) _) _) hb)
  clear hb hd
  have hz1 : w.heap.size + 1 < w1.heap.size := blk_lt RK1.out
  have hy1 : w.heap.size < w1.heap.size := by omega
  have e0 := blk_cell ST1.out 0
  have e1 := blk_cell ST1.out 1
  have e2 := blk_cell ST1.out 2
  have e3 := blk_cell ST1.out 3
  go_wp2_with fail
  refine (HFI.out _).mono ?_
  rintro e w2 ⟨rfl, hb⟩
  have ST2 : Hid ((w2).heap[w.heap.size]? = some (.cells #[.int .i64 mode, .int .i64 bits, .int .u32 acc, .int .i32 held] 24 (0, 0))) := Lib.hid (blk_below ST1.out hb)
  have RK2 : Hid ((w2).heap[w.heap.size + 1]? = some (.cells #[.int .i64 0, .string ⟨#[]⟩, .int .i64 0, .int .i64 0, .int .u32 0, .int .i32 0] 27 (0, 0))) := Lib.hid (blk_below RK1.out hb)
  have HB2 : Hid (Below w.heap.size w (w2)) := Lib.hid (on HB1.out hb)
  clear hb ST1 RK1 HB1
  have hz2 : w.heap.size + 1 < w2.heap.size := blk_lt RK2.out
  have hy2 : w.heap.size < w2.heap.size := by omega
  rw [decide_eq_true HF.out]
  clear e0 e1 e2 e3
  go_wp2_with fail
  refine (rscalarC u _).mono ?_
  rintro e w3 ⟨rfl, hd⟩
  have hb := hd.below
  have ST3 : Hid ((w3).heap[w.heap.size]? = some (.cells #[.int .i64 mode, .int .i64 bits, .int .u32 acc, .int .i32 held] 24 (0, 0))) := Lib.hid (blk_below ST2.out hb)
  have RK3 : Hid ((w3).heap[w.heap.size + 1]? = some (.cells #[.int .i64 0, .string ⟨#[]⟩, .int .i64 0, .int .i64 0, .int .u32 0, .int .i32 0] 27 (0, 0))) := Lib.hid (blk_below RK2.out hb)
  have HB3 : Hid (Below w.heap.size w (w3)) := Lib.hid (on HB2.out hb)
  clear hb hd ST2 RK2 HB2
  have hz3 : w.heap.size + 1 < w3.heap.size := blk_lt RK3.out
  have hy3 : w.heap.size < w3.heap.size := by omega
  rw [HS.out]
  have r0 := blk_cell RK3.out 0
  have r1 := blk_cell RK3.out 1
  have r2 := blk_cell RK3.out 2
  have r3 := blk_cell RK3.out 3
  have r4 := blk_cell RK3.out 4
  have r5 := blk_cell RK3.out 5
  have q0 := blk_frozen RK3.out 0
  have q1 := blk_frozen RK3.out 1
  have q2 := blk_frozen RK3.out 2
  have q3 := blk_frozen RK3.out 3
  have q4 := blk_frozen RK3.out 4
  have q5 := blk_frozen RK3.out 5
  go_wp2_with fail
  refine bodyPost_ret (results_cell_row rfl _ _ (w.heap.size + 1) 27 _ (0, 0) _ rfl (put6 RK3.out _ _ _ _ _ _) Try.underlying27 rfl (by kernel_rfl)) rfl ?_
  exact ⟨rfl, below6 HB3.out (Nat.le_succ _) _ _ _ _ _ _⟩
set_option maxHeartbeats 4000000 in
set_option maxRecDepth 100000 in
theorem rset_none_10 (mode bits acc held u n : Int) (pairs marks low : Bool) (w : World) (hk : shp 10 mode = some (n, pairs, marks, low)) (hf : Fit marks mode bits acc held) (hs : Scal u) (hu : 65535 < u) :
    Calls Try.prog 10 #[.int .i64 10, stV mode bits acc held, .int .i32 u] w fun en w' => en = .returned (putV 11 ⟨#[]⟩ 0) ∧ Below w.heap.size w w' := by
  have HS := Lib.hid (decide_eq_true hs)
  clear hs
  have HFI : Hid (∀ W, Calls Try.prog 21 #[.int .i64 10, .agg #[.int .i64 mode, .int .i64 bits, .int .u32 acc, .int .i32 held]] W fun e w' => e = .returned (.bool (decide (Fit marks mode bits acc held))) ∧ Below W.heap.size W w') := Lib.hid (fun W => rfitsC bits acc held W hk)
  unfold stV
  have HK := Lib.hid hk
  have HF := Lib.hid hf
  clear hk hf
  go_enter Try.func10, Try.ntmps10
  go_wp2_with fail
  refine (rhasC _ HK.out).mono ?_
  rintro e w1 ⟨rfl, hd⟩
  have hb := hd.below
  have ST1 : Hid ((w1).heap[w.heap.size]? = some (.cells #[.int .i64 mode, .int .i64 bits, .int .u32 acc, .int .i32 held] 24 (0, 0))) := Lib.hid (blk_below (blk_alloc (heap_alloc_new _ _) _) hb)
  have RK1 : Hid ((w1).heap[w.heap.size + 1]? = some (.cells #[.int .i64 0, .string ⟨#[]⟩, .int .i64 0, .int .i64 0, .int .u32 0, .int .i32 0] 27 (0, 0))) := Lib.hid (blk_below (blk_second _ _ _) hb)
  have HB1 : Hid (Below w.heap.size w (w1)) := Lib.hid (on (below_alloc (below_alloc (Below.refl _ _) _) _) hb)
  clear hb hd
  have hz1 : w.heap.size + 1 < w1.heap.size := blk_lt RK1.out
  have hy1 : w.heap.size < w1.heap.size := by omega
  have e0 := blk_cell ST1.out 0
  have e1 := blk_cell ST1.out 1
  have e2 := blk_cell ST1.out 2
  have e3 := blk_cell ST1.out 3
  go_wp2_with fail
  refine (HFI.out _).mono ?_
  rintro e w2 ⟨rfl, hb⟩
  have ST2 : Hid ((w2).heap[w.heap.size]? = some (.cells #[.int .i64 mode, .int .i64 bits, .int .u32 acc, .int .i32 held] 24 (0, 0))) := Lib.hid (blk_below ST1.out hb)
  have RK2 : Hid ((w2).heap[w.heap.size + 1]? = some (.cells #[.int .i64 0, .string ⟨#[]⟩, .int .i64 0, .int .i64 0, .int .u32 0, .int .i32 0] 27 (0, 0))) := Lib.hid (blk_below RK1.out hb)
  have HB2 : Hid (Below w.heap.size w (w2)) := Lib.hid (on HB1.out hb)
  clear hb ST1 RK1 HB1
  have hz2 : w.heap.size + 1 < w2.heap.size := blk_lt RK2.out
  have hy2 : w.heap.size < w2.heap.size := by omega
  rw [decide_eq_true HF.out]
  clear e0 e1 e2 e3
  go_wp2_with fail
  refine (rscalarC u _).mono ?_
  rintro e w3 ⟨rfl, hd⟩
  have hb := hd.below
  have ST3 : Hid ((w3).heap[w.heap.size]? = some (.cells #[.int .i64 mode, .int .i64 bits, .int .u32 acc, .int .i32 held] 24 (0, 0))) := Lib.hid (blk_below ST2.out hb)
  have RK3 : Hid ((w3).heap[w.heap.size + 1]? = some (.cells #[.int .i64 0, .string ⟨#[]⟩, .int .i64 0, .int .i64 0, .int .u32 0, .int .i32 0] 27 (0, 0))) := Lib.hid (blk_below RK2.out hb)
  have HB3 : Hid (Below w.heap.size w (w3)) := Lib.hid (on HB2.out hb)
  clear hb hd ST2 RK2 HB2
  have hz3 : w.heap.size + 1 < w3.heap.size := blk_lt RK3.out
  have hy3 : w.heap.size < w3.heap.size := by omega
  rw [HS.out]
  have r0 := blk_cell RK3.out 0
  have r1 := blk_cell RK3.out 1
  have r2 := blk_cell RK3.out 2
  have r3 := blk_cell RK3.out 3
  have r4 := blk_cell RK3.out 4
  have r5 := blk_cell RK3.out 5
  have q0 := blk_frozen RK3.out 0
  have q1 := blk_frozen RK3.out 1
  have q2 := blk_frozen RK3.out 2
  have q3 := blk_frozen RK3.out 3
  have q4 := blk_frozen RK3.out 4
  have q5 := blk_frozen RK3.out 5
  go_wp2_with fail
  refine bodyPost_ret (results_cell_row rfl _ _ (w.heap.size + 1) 27 _ (0, 0) _ rfl (put6 RK3.out _ _ _ _ _ _) Try.underlying27 rfl (by kernel_rfl)) rfl ?_
  exact ⟨rfl, below6 HB3.out (Nat.le_succ _) _ _ _ _ _ _⟩
set_option maxHeartbeats 4000000 in
set_option maxRecDepth 100000 in
theorem rset_one2 (kind mode u : Int) (pairs : Bool) (marks : Bool) (low : Bool) (w : World) (hk : shp kind mode = some (2, pairs, marks, low)) (hf : Fit marks mode 0 0 0) (hm : ¬ (marks = true ∧ mode = 0)) (hs : Scal u) (h6 : u < 65536) :
    Calls Try.prog 10 #[.int .i64 kind, stV mode 0 0 0, .int .i32 u] w fun en w' => en = .returned (putV 0 (strOfNums (un low 2 u)) mode) ∧ Below w.heap.size w w' := by
  have hs0 : 0 ≤ u ∧ u ≤ 1114111 := ⟨hs.1, hs.2.1⟩
  have HSP := Lib.hid (fun W => rsplitC_no (u := u) W h6)
  have HU1 : Hid (∀ W, Calls Try.prog 24 #[.int .u32 u, .int .i64 2, .bool low] W fun e w' => e = .returned (.string (strOfNums (un low 2 u))) ∧ Below W.heap.size W w') := Lib.hid (fun W => runitC low W (by omega) (by omega) (by decide))
  have hz1 : (strOfNums (un low 2 u)).size ≤ 4 := by rw [str_size]; have := un_len low (show (2 : Int) = 2 ∨ (2 : Int) = 4 by decide) u; omega
  obtain ⟨S1, hS1⟩ : ∃ S, S = strOfNums (un low 2 u) := ⟨_, rfl⟩
  rw [← hS1] at hz1
  have HS1 := Lib.hid hS1
  have hwx : IntKind.u32.wrap u = u := by rw [IntKind.wrap_u32]; omega
  have HR : Hid (strOfNums (un low 2 u) = S1) := Lib.hid (by rw [hS1])
  clear hS1
  have k0 : ¬ 9223372036854775807 < S1.size := by omega
  have hu' : ¬ 65535 < u := by omega
  have HS : Hid (decide (Scal u) = true) := Lib.hid (decide_eq_true hs)
  clear hs
  have hmm : marks = false ∨ (marks = true ∧ (mode == 0) = false) := by cases marks; exact .inl rfl; exact .inr ⟨rfl, beq_eq_false_iff_ne.2 fun h0 => hm ⟨rfl, h0⟩⟩
  clear hm
  rcases hmm with rfl | ⟨rfl, hmm⟩
  · skip
    have HFI : Hid (∀ W, Calls Try.prog 21 #[.int .i64 kind, .agg #[.int .i64 mode, .int .i64 0, .int .u32 0, .int .i32 0]] W fun e w' => e = .returned (.bool (decide (Fit false mode 0 0 0))) ∧ Below W.heap.size W w') := Lib.hid (fun W => rfitsC 0 0 0 W hk)
    unfold stV
    have HK := Lib.hid hk
    have HF := Lib.hid hf
    clear hk hf
    go_enter Try.func10, Try.ntmps10
    go_wp2_with fail
    refine (rhasC _ HK.out).mono ?_
    rintro e w1 ⟨rfl, hd⟩
    have hb := hd.below
    have ST1 : Hid ((w1).heap[w.heap.size]? = some (.cells #[.int .i64 mode, .int .i64 0, .int .u32 0, .int .i32 0] 24 (0, 0))) := Lib.hid (blk_below (blk_alloc (heap_alloc_new _ _) _) hb)
    have RK1 : Hid ((w1).heap[w.heap.size + 1]? = some (.cells #[.int .i64 0, .string ⟨#[]⟩, .int .i64 0, .int .i64 0, .int .u32 0, .int .i32 0] 27 (0, 0))) := Lib.hid (blk_below (blk_second _ _ _) hb)
    have HB1 : Hid (Below w.heap.size w (w1)) := Lib.hid (on (below_alloc (below_alloc (Below.refl _ _) _) _) hb)
    clear hb hd
    have hz1 : w.heap.size + 1 < w1.heap.size := blk_lt RK1.out
    have hy1 : w.heap.size < w1.heap.size := by omega
    have e0 := blk_cell ST1.out 0
    have e1 := blk_cell ST1.out 1
    have e2 := blk_cell ST1.out 2
    have e3 := blk_cell ST1.out 3
    go_wp2_with fail
    refine (HFI.out _).mono ?_
    rintro e w2 ⟨rfl, hb⟩
    have ST2 : Hid ((w2).heap[w.heap.size]? = some (.cells #[.int .i64 mode, .int .i64 0, .int .u32 0, .int .i32 0] 24 (0, 0))) := Lib.hid (blk_below ST1.out hb)
    have RK2 : Hid ((w2).heap[w.heap.size + 1]? = some (.cells #[.int .i64 0, .string ⟨#[]⟩, .int .i64 0, .int .i64 0, .int .u32 0, .int .i32 0] 27 (0, 0))) := Lib.hid (blk_below RK1.out hb)
    have HB2 : Hid (Below w.heap.size w (w2)) := Lib.hid (on HB1.out hb)
    clear hb ST1 RK1 HB1
    have hz2 : w.heap.size + 1 < w2.heap.size := blk_lt RK2.out
    have hy2 : w.heap.size < w2.heap.size := by omega
    rw [decide_eq_true HF.out]
    clear e0 e1 e2 e3
    go_wp2_with fail
    refine (rscalarC u _).mono ?_
    rintro e w3 ⟨rfl, hd⟩
    have hb := hd.below
    have ST3 : Hid ((w3).heap[w.heap.size]? = some (.cells #[.int .i64 mode, .int .i64 0, .int .u32 0, .int .i32 0] 24 (0, 0))) := Lib.hid (blk_below ST2.out hb)
    have RK3 : Hid ((w3).heap[w.heap.size + 1]? = some (.cells #[.int .i64 0, .string ⟨#[]⟩, .int .i64 0, .int .i64 0, .int .u32 0, .int .i32 0] 27 (0, 0))) := Lib.hid (blk_below RK2.out hb)
    have HB3 : Hid (Below w.heap.size w (w3)) := Lib.hid (on HB2.out hb)
    clear hb hd ST2 RK2 HB2
    have hz3 : w.heap.size + 1 < w3.heap.size := blk_lt RK3.out
    have hy3 : w.heap.size < w3.heap.size := by omega
    rw [HS.out]
    go_wp2_with fail
    refine (rsizeC _ HK.out).mono ?_
    rintro e w4 ⟨rfl, hd⟩
    have hb := hd.below
    have ST4 : Hid ((w4).heap[w.heap.size]? = some (.cells #[.int .i64 mode, .int .i64 0, .int .u32 0, .int .i32 0] 24 (0, 0))) := Lib.hid (blk_below ST3.out hb)
    have RK4 : Hid ((w4).heap[w.heap.size + 1]? = some (.cells #[.int .i64 0, .string ⟨#[]⟩, .int .i64 0, .int .i64 0, .int .u32 0, .int .i32 0] 27 (0, 0))) := Lib.hid (blk_below RK3.out hb)
    have HB4 : Hid (Below w.heap.size w (w4)) := Lib.hid (on HB3.out hb)
    clear hb hd ST3 RK3 HB3
    have hz4 : w.heap.size + 1 < w4.heap.size := blk_lt RK4.out
    have hy4 : w.heap.size < w4.heap.size := by omega
    have e0 := blk_cell ST4.out 0
    have e1 := blk_cell ST4.out 1
    have e2 := blk_cell ST4.out 2
    have e3 := blk_cell ST4.out 3
    go_wp2_with fail
    refine (rmarkedC _ HK.out).mono ?_
    rintro e w5 ⟨rfl, hd⟩
    have hb := hd.below
    have ST5 : Hid ((w5).heap[w.heap.size]? = some (.cells #[.int .i64 mode, .int .i64 0, .int .u32 0, .int .i32 0] 24 (0, 0))) := Lib.hid (blk_below ST4.out hb)
    have RK5 : Hid ((w5).heap[w.heap.size + 1]? = some (.cells #[.int .i64 0, .string ⟨#[]⟩, .int .i64 0, .int .i64 0, .int .u32 0, .int .i32 0] 27 (0, 0))) := Lib.hid (blk_below RK4.out hb)
    have HB5 : Hid (Below w.heap.size w (w5)) := Lib.hid (on HB4.out hb)
    clear hb hd ST4 RK4 HB4
    have hz5 : w.heap.size + 1 < w5.heap.size := blk_lt RK5.out
    have hy5 : w.heap.size < w5.heap.size := by omega
    clear e0 e1 e2 e3
    have e0 := blk_cell ST5.out 0
    have e1 := blk_cell ST5.out 1
    have e2 := blk_cell ST5.out 2
    have e3 := blk_cell ST5.out 3
    go_wp2_with fail
    refine (rlittleC _ HK.out).mono ?_
    rintro e w7 ⟨rfl, hd⟩
    have hb := hd.below
    have ST6 : Hid ((w7).heap[w.heap.size]? = some (.cells #[.int .i64 mode, .int .i64 0, .int .u32 0, .int .i32 0] 24 (0, 0))) := Lib.hid (blk_below ST5.out hb)
    have RK6 : Hid ((w7).heap[w.heap.size + 1]? = some (.cells #[.int .i64 0, .string ⟨#[]⟩, .int .i64 0, .int .i64 0, .int .u32 0, .int .i32 0] 27 (0, 0))) := Lib.hid (blk_below RK5.out hb)
    have HB6 : Hid (Below w.heap.size w (w7)) := Lib.hid (on HB5.out hb)
    clear hb hd ST5 RK5 HB5
    have hz6 : w.heap.size + 1 < w7.heap.size := blk_lt RK6.out
    have hy6 : w.heap.size < w7.heap.size := by omega
    clear e0 e1 e2 e3
    go_wp2_with fail
    refine (HSP.out _).mono ?_
    rintro e w8 ⟨rfl, hd⟩
    have hb := hd.below
    have ST7 : Hid ((w8).heap[w.heap.size]? = some (.cells #[.int .i64 mode, .int .i64 0, .int .u32 0, .int .i32 0] 24 (0, 0))) := Lib.hid (blk_below ST6.out hb)
    have RK7 : Hid ((w8).heap[w.heap.size + 1]? = some (.cells #[.int .i64 0, .string ⟨#[]⟩, .int .i64 0, .int .i64 0, .int .u32 0, .int .i32 0] 27 (0, 0))) := Lib.hid (blk_below RK6.out hb)
    have HB7 : Hid (Below w.heap.size w (w8)) := Lib.hid (on HB6.out hb)
    clear hb hd ST6 RK6 HB6
    have hz7 : w.heap.size + 1 < w8.heap.size := blk_lt RK7.out
    have hy7 : w.heap.size < w8.heap.size := by omega
    go_wp2_with fail
    have e0 := blk_cell ST7.out 0
    have e1 := blk_cell ST7.out 1
    have e2 := blk_cell ST7.out 2
    have e3 := blk_cell ST7.out 3
    have HX : Hid (Below w8.heap.size w8 w8.drew) := Lib.hid (below_drew (Below.refl _ _))
    have RZ : Hid (w8.drew.heap[w.heap.size + 1]? = some (.cells #[.int .i64 0, .string ⟨#[]⟩, .int .i64 0, .int .i64 0, .int .u32 0, .int .i32 0] 27 (0, 0))) := Lib.hid RK7.out
    have HZ : Hid (w8.heap.size ≤ w8.drew.heap.size) := Lib.hid (Nat.le_refl _)
    have hy9 : w.heap.size < w8.heap.size := by omega
    have r0 := blk_cell RZ.out 0
    have r1 := blk_cell RZ.out 1
    have r2 := blk_cell RZ.out 2
    have r3 := blk_cell RZ.out 3
    have r4 := blk_cell RZ.out 4
    have r5 := blk_cell RZ.out 5
    have q0 := blk_frozen RZ.out 0
    have q1 := blk_frozen RZ.out 1
    have q2 := blk_frozen RZ.out 2
    have q3 := blk_frozen RZ.out 3
    have q4 := blk_frozen RZ.out 4
    have q5 := blk_frozen RZ.out 5
    have d0 : w8.drew.cell? ⟨w.heap.size, 0, none⟩ = some (.int .i64 mode) := e0
    have d1 : w8.drew.cell? ⟨w.heap.size, 1, none⟩ = some (.int .i64 0) := e1
    have d2 : w8.drew.cell? ⟨w.heap.size, 2, none⟩ = some (.int .u32 0) := e2
    have d3 : w8.drew.cell? ⟨w.heap.size, 3, none⟩ = some (.int .i32 0) := e3
    clear e0 e1 e2 e3
    go_region_held3 (fun w' => w'.cell? ⟨w.heap.size, 0, none⟩ = some (.int .i64 mode) ∧ w'.cell? ⟨w.heap.size, 1, none⟩ = some (.int .i64 0) ∧ w'.cell? ⟨w.heap.size, 2, none⟩ = some (.int .u32 0) ∧ w'.cell? ⟨w.heap.size, 3, none⟩ = some (.int .i32 0)) (first | (with_reducible exact ⟨d0, d1, d2, d3⟩) | (with_reducible exact ⟨a0, a1, a2, a3⟩) | go_keep) (first | (go_at_call 24; (with_reducible refine (HU1.out _).mono ?_); rintro e wa ⟨rfl, hb⟩; rw [← HS1.out]; replace RZ := Lib.hid (blk_below RZ.out hb); clear r0 r1 r2 r3 r4 r5 q0 q1 q2 q3 q4 q5; have r0 := blk_cell RZ.out 0; have r1 := blk_cell RZ.out 1; have r2 := blk_cell RZ.out 2; have r3 := blk_cell RZ.out 3; have r4 := blk_cell RZ.out 4; have r5 := blk_cell RZ.out 5; have q0 := blk_frozen RZ.out 0; have q1 := blk_frozen RZ.out 1; have q2 := blk_frozen RZ.out 2; have q3 := blk_frozen RZ.out 3; have q4 := blk_frozen RZ.out 4; have q5 := blk_frozen RZ.out 5; have hsz := hb.size; replace HX := Lib.hid (below_on HX.out HZ.out hb); have hz := HZ.out; clear HZ; have HZ : Hid (w8.heap.size ≤ wa.heap.size) := Lib.hid (Nat.le_trans hz hsz); clear hb hz hsz; have a0 : wa.cell? ⟨w.heap.size, 0, none⟩ = some (.int .i64 mode) := (HX.out.cell (p := ⟨w.heap.size, 0, none⟩) hy9).trans d0; have a1 : wa.cell? ⟨w.heap.size, 1, none⟩ = some (.int .i64 0) := (HX.out.cell (p := ⟨w.heap.size, 1, none⟩) hy9).trans d1; have a2 : wa.cell? ⟨w.heap.size, 2, none⟩ = some (.int .u32 0) := (HX.out.cell (p := ⟨w.heap.size, 2, none⟩) hy9).trans d2; have a3 : wa.cell? ⟨w.heap.size, 3, none⟩ = some (.int .i32 0) := (HX.out.cell (p := ⟨w.heap.size, 3, none⟩) hy9).trans d3) | fail)
    all_goals
      have HBZ : Hid (Below w.heap.size w wa) := Lib.hid (HB7.out.trans (HX.out.mono (by omega)))
      go_wp2_with fail
      refine bodyPost_ret (results_cell_row rfl _ _ (w.heap.size + 1) 27 _ (0, 0) _ rfl (put6 RZ.out _ _ _ _ _ _) Try.underlying27 rfl (by kernel_rfl)) rfl ?_
      exact ⟨by rw [HR.out]; rfl, below6 HBZ.out (Nat.le_succ _) _ _ _ _ _ _⟩
  · skip
    have HFI : Hid (∀ W, Calls Try.prog 21 #[.int .i64 kind, .agg #[.int .i64 mode, .int .i64 0, .int .u32 0, .int .i32 0]] W fun e w' => e = .returned (.bool (decide (Fit true mode 0 0 0))) ∧ Below W.heap.size W w') := Lib.hid (fun W => rfitsC 0 0 0 W hk)
    unfold stV
    have HK := Lib.hid hk
    have HF := Lib.hid hf
    clear hk hf
    go_enter Try.func10, Try.ntmps10
    go_wp2_with fail
    refine (rhasC _ HK.out).mono ?_
    rintro e w1 ⟨rfl, hd⟩
    have hb := hd.below
    have ST1 : Hid ((w1).heap[w.heap.size]? = some (.cells #[.int .i64 mode, .int .i64 0, .int .u32 0, .int .i32 0] 24 (0, 0))) := Lib.hid (blk_below (blk_alloc (heap_alloc_new _ _) _) hb)
    have RK1 : Hid ((w1).heap[w.heap.size + 1]? = some (.cells #[.int .i64 0, .string ⟨#[]⟩, .int .i64 0, .int .i64 0, .int .u32 0, .int .i32 0] 27 (0, 0))) := Lib.hid (blk_below (blk_second _ _ _) hb)
    have HB1 : Hid (Below w.heap.size w (w1)) := Lib.hid (on (below_alloc (below_alloc (Below.refl _ _) _) _) hb)
    clear hb hd
    have hz1 : w.heap.size + 1 < w1.heap.size := blk_lt RK1.out
    have hy1 : w.heap.size < w1.heap.size := by omega
    have e0 := blk_cell ST1.out 0
    have e1 := blk_cell ST1.out 1
    have e2 := blk_cell ST1.out 2
    have e3 := blk_cell ST1.out 3
    go_wp2_with fail
    refine (HFI.out _).mono ?_
    rintro e w2 ⟨rfl, hb⟩
    have ST2 : Hid ((w2).heap[w.heap.size]? = some (.cells #[.int .i64 mode, .int .i64 0, .int .u32 0, .int .i32 0] 24 (0, 0))) := Lib.hid (blk_below ST1.out hb)
    have RK2 : Hid ((w2).heap[w.heap.size + 1]? = some (.cells #[.int .i64 0, .string ⟨#[]⟩, .int .i64 0, .int .i64 0, .int .u32 0, .int .i32 0] 27 (0, 0))) := Lib.hid (blk_below RK1.out hb)
    have HB2 : Hid (Below w.heap.size w (w2)) := Lib.hid (on HB1.out hb)
    clear hb ST1 RK1 HB1
    have hz2 : w.heap.size + 1 < w2.heap.size := blk_lt RK2.out
    have hy2 : w.heap.size < w2.heap.size := by omega
    rw [decide_eq_true HF.out]
    clear e0 e1 e2 e3
    go_wp2_with fail
    refine (rscalarC u _).mono ?_
    rintro e w3 ⟨rfl, hd⟩
    have hb := hd.below
    have ST3 : Hid ((w3).heap[w.heap.size]? = some (.cells #[.int .i64 mode, .int .i64 0, .int .u32 0, .int .i32 0] 24 (0, 0))) := Lib.hid (blk_below ST2.out hb)
    have RK3 : Hid ((w3).heap[w.heap.size + 1]? = some (.cells #[.int .i64 0, .string ⟨#[]⟩, .int .i64 0, .int .i64 0, .int .u32 0, .int .i32 0] 27 (0, 0))) := Lib.hid (blk_below RK2.out hb)
    have HB3 : Hid (Below w.heap.size w (w3)) := Lib.hid (on HB2.out hb)
    clear hb hd ST2 RK2 HB2
    have hz3 : w.heap.size + 1 < w3.heap.size := blk_lt RK3.out
    have hy3 : w.heap.size < w3.heap.size := by omega
    rw [HS.out]
    go_wp2_with fail
    refine (rsizeC _ HK.out).mono ?_
    rintro e w4 ⟨rfl, hd⟩
    have hb := hd.below
    have ST4 : Hid ((w4).heap[w.heap.size]? = some (.cells #[.int .i64 mode, .int .i64 0, .int .u32 0, .int .i32 0] 24 (0, 0))) := Lib.hid (blk_below ST3.out hb)
    have RK4 : Hid ((w4).heap[w.heap.size + 1]? = some (.cells #[.int .i64 0, .string ⟨#[]⟩, .int .i64 0, .int .i64 0, .int .u32 0, .int .i32 0] 27 (0, 0))) := Lib.hid (blk_below RK3.out hb)
    have HB4 : Hid (Below w.heap.size w (w4)) := Lib.hid (on HB3.out hb)
    clear hb hd ST3 RK3 HB3
    have hz4 : w.heap.size + 1 < w4.heap.size := blk_lt RK4.out
    have hy4 : w.heap.size < w4.heap.size := by omega
    have e0 := blk_cell ST4.out 0
    have e1 := blk_cell ST4.out 1
    have e2 := blk_cell ST4.out 2
    have e3 := blk_cell ST4.out 3
    go_wp2_with fail
    refine (rmarkedC _ HK.out).mono ?_
    rintro e w5 ⟨rfl, hd⟩
    have hb := hd.below
    have ST5 : Hid ((w5).heap[w.heap.size]? = some (.cells #[.int .i64 mode, .int .i64 0, .int .u32 0, .int .i32 0] 24 (0, 0))) := Lib.hid (blk_below ST4.out hb)
    have RK5 : Hid ((w5).heap[w.heap.size + 1]? = some (.cells #[.int .i64 0, .string ⟨#[]⟩, .int .i64 0, .int .i64 0, .int .u32 0, .int .i32 0] 27 (0, 0))) := Lib.hid (blk_below RK4.out hb)
    have HB5 : Hid (Below w.heap.size w (w5)) := Lib.hid (on HB4.out hb)
    clear hb hd ST4 RK4 HB4
    have hz5 : w.heap.size + 1 < w5.heap.size := blk_lt RK5.out
    have hy5 : w.heap.size < w5.heap.size := by omega
    clear e0 e1 e2 e3
    have e0 := blk_cell ST5.out 0
    have e1 := blk_cell ST5.out 1
    have e2 := blk_cell ST5.out 2
    have e3 := blk_cell ST5.out 3
    go_wp2_with fail
    refine (rlittleC _ HK.out).mono ?_
    rintro e w7 ⟨rfl, hd⟩
    have hb := hd.below
    have ST6 : Hid ((w7).heap[w.heap.size]? = some (.cells #[.int .i64 mode, .int .i64 0, .int .u32 0, .int .i32 0] 24 (0, 0))) := Lib.hid (blk_below ST5.out hb)
    have RK6 : Hid ((w7).heap[w.heap.size + 1]? = some (.cells #[.int .i64 0, .string ⟨#[]⟩, .int .i64 0, .int .i64 0, .int .u32 0, .int .i32 0] 27 (0, 0))) := Lib.hid (blk_below RK5.out hb)
    have HB6 : Hid (Below w.heap.size w (w7)) := Lib.hid (on HB5.out hb)
    clear hb hd ST5 RK5 HB5
    have hz6 : w.heap.size + 1 < w7.heap.size := blk_lt RK6.out
    have hy6 : w.heap.size < w7.heap.size := by omega
    clear e0 e1 e2 e3
    go_wp2_with fail
    refine (HSP.out _).mono ?_
    rintro e w8 ⟨rfl, hd⟩
    have hb := hd.below
    have ST7 : Hid ((w8).heap[w.heap.size]? = some (.cells #[.int .i64 mode, .int .i64 0, .int .u32 0, .int .i32 0] 24 (0, 0))) := Lib.hid (blk_below ST6.out hb)
    have RK7 : Hid ((w8).heap[w.heap.size + 1]? = some (.cells #[.int .i64 0, .string ⟨#[]⟩, .int .i64 0, .int .i64 0, .int .u32 0, .int .i32 0] 27 (0, 0))) := Lib.hid (blk_below RK6.out hb)
    have HB7 : Hid (Below w.heap.size w (w8)) := Lib.hid (on HB6.out hb)
    clear hb hd ST6 RK6 HB6
    have hz7 : w.heap.size + 1 < w8.heap.size := blk_lt RK7.out
    have hy7 : w.heap.size < w8.heap.size := by omega
    go_wp2_with fail
    have e0 := blk_cell ST7.out 0
    have e1 := blk_cell ST7.out 1
    have e2 := blk_cell ST7.out 2
    have e3 := blk_cell ST7.out 3
    have HX : Hid (Below w8.heap.size w8 w8.drew) := Lib.hid (below_drew (Below.refl _ _))
    have RZ : Hid (w8.drew.heap[w.heap.size + 1]? = some (.cells #[.int .i64 0, .string ⟨#[]⟩, .int .i64 0, .int .i64 0, .int .u32 0, .int .i32 0] 27 (0, 0))) := Lib.hid RK7.out
    have HZ : Hid (w8.heap.size ≤ w8.drew.heap.size) := Lib.hid (Nat.le_refl _)
    have hy9 : w.heap.size < w8.heap.size := by omega
    have r0 := blk_cell RZ.out 0
    have r1 := blk_cell RZ.out 1
    have r2 := blk_cell RZ.out 2
    have r3 := blk_cell RZ.out 3
    have r4 := blk_cell RZ.out 4
    have r5 := blk_cell RZ.out 5
    have q0 := blk_frozen RZ.out 0
    have q1 := blk_frozen RZ.out 1
    have q2 := blk_frozen RZ.out 2
    have q3 := blk_frozen RZ.out 3
    have q4 := blk_frozen RZ.out 4
    have q5 := blk_frozen RZ.out 5
    have d0 : w8.drew.cell? ⟨w.heap.size, 0, none⟩ = some (.int .i64 mode) := e0
    have d1 : w8.drew.cell? ⟨w.heap.size, 1, none⟩ = some (.int .i64 0) := e1
    have d2 : w8.drew.cell? ⟨w.heap.size, 2, none⟩ = some (.int .u32 0) := e2
    have d3 : w8.drew.cell? ⟨w.heap.size, 3, none⟩ = some (.int .i32 0) := e3
    clear e0 e1 e2 e3
    go_region_held3 (fun w' => w'.cell? ⟨w.heap.size, 0, none⟩ = some (.int .i64 mode) ∧ w'.cell? ⟨w.heap.size, 1, none⟩ = some (.int .i64 0) ∧ w'.cell? ⟨w.heap.size, 2, none⟩ = some (.int .u32 0) ∧ w'.cell? ⟨w.heap.size, 3, none⟩ = some (.int .i32 0)) (first | (with_reducible exact ⟨d0, d1, d2, d3⟩) | (with_reducible exact ⟨a0, a1, a2, a3⟩) | go_keep) (first | (go_at_call 24; (with_reducible refine (HU1.out _).mono ?_); rintro e wa ⟨rfl, hb⟩; rw [← HS1.out]; replace RZ := Lib.hid (blk_below RZ.out hb); clear r0 r1 r2 r3 r4 r5 q0 q1 q2 q3 q4 q5; have r0 := blk_cell RZ.out 0; have r1 := blk_cell RZ.out 1; have r2 := blk_cell RZ.out 2; have r3 := blk_cell RZ.out 3; have r4 := blk_cell RZ.out 4; have r5 := blk_cell RZ.out 5; have q0 := blk_frozen RZ.out 0; have q1 := blk_frozen RZ.out 1; have q2 := blk_frozen RZ.out 2; have q3 := blk_frozen RZ.out 3; have q4 := blk_frozen RZ.out 4; have q5 := blk_frozen RZ.out 5; have hsz := hb.size; replace HX := Lib.hid (below_on HX.out HZ.out hb); have hz := HZ.out; clear HZ; have HZ : Hid (w8.heap.size ≤ wa.heap.size) := Lib.hid (Nat.le_trans hz hsz); clear hb hz hsz; have a0 : wa.cell? ⟨w.heap.size, 0, none⟩ = some (.int .i64 mode) := (HX.out.cell (p := ⟨w.heap.size, 0, none⟩) hy9).trans d0; have a1 : wa.cell? ⟨w.heap.size, 1, none⟩ = some (.int .i64 0) := (HX.out.cell (p := ⟨w.heap.size, 1, none⟩) hy9).trans d1; have a2 : wa.cell? ⟨w.heap.size, 2, none⟩ = some (.int .u32 0) := (HX.out.cell (p := ⟨w.heap.size, 2, none⟩) hy9).trans d2; have a3 : wa.cell? ⟨w.heap.size, 3, none⟩ = some (.int .i32 0) := (HX.out.cell (p := ⟨w.heap.size, 3, none⟩) hy9).trans d3) | fail)
    all_goals
      have HBZ : Hid (Below w.heap.size w wa) := Lib.hid (HB7.out.trans (HX.out.mono (by omega)))
      go_wp2_with fail
      refine bodyPost_ret (results_cell_row rfl _ _ (w.heap.size + 1) 27 _ (0, 0) _ rfl (put6 RZ.out _ _ _ _ _ _) Try.underlying27 rfl (by kernel_rfl)) rfl ?_
      exact ⟨by rw [HR.out]; rfl, below6 HBZ.out (Nat.le_succ _) _ _ _ _ _ _⟩
set_option maxHeartbeats 4000000 in
set_option maxRecDepth 100000 in
theorem rset_one4 (kind mode u : Int) (marks : Bool) (low : Bool) (w : World) (hk : shp kind mode = some (4, false, marks, low)) (hf : Fit marks mode 0 0 0) (hm : ¬ (marks = true ∧ mode = 0)) (hs : Scal u) (h6 : u < 65536) :
    Calls Try.prog 10 #[.int .i64 kind, stV mode 0 0 0, .int .i32 u] w fun en w' => en = .returned (putV 0 (strOfNums (un low 4 u)) mode) ∧ Below w.heap.size w w' := by
  have hs0 : 0 ≤ u ∧ u ≤ 1114111 := ⟨hs.1, hs.2.1⟩
  have HSP := Lib.hid (fun W => rsplitC_no (u := u) W h6)
  have HU1 : Hid (∀ W, Calls Try.prog 24 #[.int .u32 u, .int .i64 4, .bool low] W fun e w' => e = .returned (.string (strOfNums (un low 4 u))) ∧ Below W.heap.size W w') := Lib.hid (fun W => runitC low W (by omega) (by omega) (by decide))
  have hz1 : (strOfNums (un low 4 u)).size ≤ 4 := by rw [str_size]; have := un_len low (show (4 : Int) = 2 ∨ (4 : Int) = 4 by decide) u; omega
  obtain ⟨S1, hS1⟩ : ∃ S, S = strOfNums (un low 4 u) := ⟨_, rfl⟩
  rw [← hS1] at hz1
  have HS1 := Lib.hid hS1
  have hwx : IntKind.u32.wrap u = u := by rw [IntKind.wrap_u32]; omega
  have HR : Hid (strOfNums (un low 4 u) = S1) := Lib.hid (by rw [hS1])
  clear hS1
  have k0 : ¬ 9223372036854775807 < S1.size := by omega
  have hu' : ¬ 65535 < u := by omega
  have HS : Hid (decide (Scal u) = true) := Lib.hid (decide_eq_true hs)
  clear hs
  have hmm : marks = false ∨ (marks = true ∧ (mode == 0) = false) := by cases marks; exact .inl rfl; exact .inr ⟨rfl, beq_eq_false_iff_ne.2 fun h0 => hm ⟨rfl, h0⟩⟩
  clear hm
  rcases hmm with rfl | ⟨rfl, hmm⟩
  · skip
    have HFI : Hid (∀ W, Calls Try.prog 21 #[.int .i64 kind, .agg #[.int .i64 mode, .int .i64 0, .int .u32 0, .int .i32 0]] W fun e w' => e = .returned (.bool (decide (Fit false mode 0 0 0))) ∧ Below W.heap.size W w') := Lib.hid (fun W => rfitsC 0 0 0 W hk)
    unfold stV
    have HK := Lib.hid hk
    have HF := Lib.hid hf
    clear hk hf
    go_enter Try.func10, Try.ntmps10
    go_wp2_with fail
    refine (rhasC _ HK.out).mono ?_
    rintro e w1 ⟨rfl, hd⟩
    have hb := hd.below
    have ST1 : Hid ((w1).heap[w.heap.size]? = some (.cells #[.int .i64 mode, .int .i64 0, .int .u32 0, .int .i32 0] 24 (0, 0))) := Lib.hid (blk_below (blk_alloc (heap_alloc_new _ _) _) hb)
    have RK1 : Hid ((w1).heap[w.heap.size + 1]? = some (.cells #[.int .i64 0, .string ⟨#[]⟩, .int .i64 0, .int .i64 0, .int .u32 0, .int .i32 0] 27 (0, 0))) := Lib.hid (blk_below (blk_second _ _ _) hb)
    have HB1 : Hid (Below w.heap.size w (w1)) := Lib.hid (on (below_alloc (below_alloc (Below.refl _ _) _) _) hb)
    clear hb hd
    have hz1 : w.heap.size + 1 < w1.heap.size := blk_lt RK1.out
    have hy1 : w.heap.size < w1.heap.size := by omega
    have e0 := blk_cell ST1.out 0
    have e1 := blk_cell ST1.out 1
    have e2 := blk_cell ST1.out 2
    have e3 := blk_cell ST1.out 3
    go_wp2_with fail
    refine (HFI.out _).mono ?_
    rintro e w2 ⟨rfl, hb⟩
    have ST2 : Hid ((w2).heap[w.heap.size]? = some (.cells #[.int .i64 mode, .int .i64 0, .int .u32 0, .int .i32 0] 24 (0, 0))) := Lib.hid (blk_below ST1.out hb)
    have RK2 : Hid ((w2).heap[w.heap.size + 1]? = some (.cells #[.int .i64 0, .string ⟨#[]⟩, .int .i64 0, .int .i64 0, .int .u32 0, .int .i32 0] 27 (0, 0))) := Lib.hid (blk_below RK1.out hb)
    have HB2 : Hid (Below w.heap.size w (w2)) := Lib.hid (on HB1.out hb)
    clear hb ST1 RK1 HB1
    have hz2 : w.heap.size + 1 < w2.heap.size := blk_lt RK2.out
    have hy2 : w.heap.size < w2.heap.size := by omega
    rw [decide_eq_true HF.out]
    clear e0 e1 e2 e3
    go_wp2_with fail
    refine (rscalarC u _).mono ?_
    rintro e w3 ⟨rfl, hd⟩
    have hb := hd.below
    have ST3 : Hid ((w3).heap[w.heap.size]? = some (.cells #[.int .i64 mode, .int .i64 0, .int .u32 0, .int .i32 0] 24 (0, 0))) := Lib.hid (blk_below ST2.out hb)
    have RK3 : Hid ((w3).heap[w.heap.size + 1]? = some (.cells #[.int .i64 0, .string ⟨#[]⟩, .int .i64 0, .int .i64 0, .int .u32 0, .int .i32 0] 27 (0, 0))) := Lib.hid (blk_below RK2.out hb)
    have HB3 : Hid (Below w.heap.size w (w3)) := Lib.hid (on HB2.out hb)
    clear hb hd ST2 RK2 HB2
    have hz3 : w.heap.size + 1 < w3.heap.size := blk_lt RK3.out
    have hy3 : w.heap.size < w3.heap.size := by omega
    rw [HS.out]
    go_wp2_with fail
    refine (rsizeC _ HK.out).mono ?_
    rintro e w4 ⟨rfl, hd⟩
    have hb := hd.below
    have ST4 : Hid ((w4).heap[w.heap.size]? = some (.cells #[.int .i64 mode, .int .i64 0, .int .u32 0, .int .i32 0] 24 (0, 0))) := Lib.hid (blk_below ST3.out hb)
    have RK4 : Hid ((w4).heap[w.heap.size + 1]? = some (.cells #[.int .i64 0, .string ⟨#[]⟩, .int .i64 0, .int .i64 0, .int .u32 0, .int .i32 0] 27 (0, 0))) := Lib.hid (blk_below RK3.out hb)
    have HB4 : Hid (Below w.heap.size w (w4)) := Lib.hid (on HB3.out hb)
    clear hb hd ST3 RK3 HB3
    have hz4 : w.heap.size + 1 < w4.heap.size := blk_lt RK4.out
    have hy4 : w.heap.size < w4.heap.size := by omega
    have e0 := blk_cell ST4.out 0
    have e1 := blk_cell ST4.out 1
    have e2 := blk_cell ST4.out 2
    have e3 := blk_cell ST4.out 3
    go_wp2_with fail
    refine (rmarkedC _ HK.out).mono ?_
    rintro e w5 ⟨rfl, hd⟩
    have hb := hd.below
    have ST5 : Hid ((w5).heap[w.heap.size]? = some (.cells #[.int .i64 mode, .int .i64 0, .int .u32 0, .int .i32 0] 24 (0, 0))) := Lib.hid (blk_below ST4.out hb)
    have RK5 : Hid ((w5).heap[w.heap.size + 1]? = some (.cells #[.int .i64 0, .string ⟨#[]⟩, .int .i64 0, .int .i64 0, .int .u32 0, .int .i32 0] 27 (0, 0))) := Lib.hid (blk_below RK4.out hb)
    have HB5 : Hid (Below w.heap.size w (w5)) := Lib.hid (on HB4.out hb)
    clear hb hd ST4 RK4 HB4
    have hz5 : w.heap.size + 1 < w5.heap.size := blk_lt RK5.out
    have hy5 : w.heap.size < w5.heap.size := by omega
    clear e0 e1 e2 e3
    have e0 := blk_cell ST5.out 0
    have e1 := blk_cell ST5.out 1
    have e2 := blk_cell ST5.out 2
    have e3 := blk_cell ST5.out 3
    go_wp2_with fail
    refine (rlittleC _ HK.out).mono ?_
    rintro e w7 ⟨rfl, hd⟩
    have hb := hd.below
    have ST6 : Hid ((w7).heap[w.heap.size]? = some (.cells #[.int .i64 mode, .int .i64 0, .int .u32 0, .int .i32 0] 24 (0, 0))) := Lib.hid (blk_below ST5.out hb)
    have RK6 : Hid ((w7).heap[w.heap.size + 1]? = some (.cells #[.int .i64 0, .string ⟨#[]⟩, .int .i64 0, .int .i64 0, .int .u32 0, .int .i32 0] 27 (0, 0))) := Lib.hid (blk_below RK5.out hb)
    have HB6 : Hid (Below w.heap.size w (w7)) := Lib.hid (on HB5.out hb)
    clear hb hd ST5 RK5 HB5
    have hz6 : w.heap.size + 1 < w7.heap.size := blk_lt RK6.out
    have hy6 : w.heap.size < w7.heap.size := by omega
    clear e0 e1 e2 e3
    go_wp2_with fail
    refine (HSP.out _).mono ?_
    rintro e w8 ⟨rfl, hd⟩
    have hb := hd.below
    have ST7 : Hid ((w8).heap[w.heap.size]? = some (.cells #[.int .i64 mode, .int .i64 0, .int .u32 0, .int .i32 0] 24 (0, 0))) := Lib.hid (blk_below ST6.out hb)
    have RK7 : Hid ((w8).heap[w.heap.size + 1]? = some (.cells #[.int .i64 0, .string ⟨#[]⟩, .int .i64 0, .int .i64 0, .int .u32 0, .int .i32 0] 27 (0, 0))) := Lib.hid (blk_below RK6.out hb)
    have HB7 : Hid (Below w.heap.size w (w8)) := Lib.hid (on HB6.out hb)
    clear hb hd ST6 RK6 HB6
    have hz7 : w.heap.size + 1 < w8.heap.size := blk_lt RK7.out
    have hy7 : w.heap.size < w8.heap.size := by omega
    go_wp2_with fail
    have e0 := blk_cell ST7.out 0
    have e1 := blk_cell ST7.out 1
    have e2 := blk_cell ST7.out 2
    have e3 := blk_cell ST7.out 3
    have HX : Hid (Below w8.heap.size w8 w8.drew) := Lib.hid (below_drew (Below.refl _ _))
    have RZ : Hid (w8.drew.heap[w.heap.size + 1]? = some (.cells #[.int .i64 0, .string ⟨#[]⟩, .int .i64 0, .int .i64 0, .int .u32 0, .int .i32 0] 27 (0, 0))) := Lib.hid RK7.out
    have HZ : Hid (w8.heap.size ≤ w8.drew.heap.size) := Lib.hid (Nat.le_refl _)
    have hy9 : w.heap.size < w8.heap.size := by omega
    have r0 := blk_cell RZ.out 0
    have r1 := blk_cell RZ.out 1
    have r2 := blk_cell RZ.out 2
    have r3 := blk_cell RZ.out 3
    have r4 := blk_cell RZ.out 4
    have r5 := blk_cell RZ.out 5
    have q0 := blk_frozen RZ.out 0
    have q1 := blk_frozen RZ.out 1
    have q2 := blk_frozen RZ.out 2
    have q3 := blk_frozen RZ.out 3
    have q4 := blk_frozen RZ.out 4
    have q5 := blk_frozen RZ.out 5
    have d0 : w8.drew.cell? ⟨w.heap.size, 0, none⟩ = some (.int .i64 mode) := e0
    have d1 : w8.drew.cell? ⟨w.heap.size, 1, none⟩ = some (.int .i64 0) := e1
    have d2 : w8.drew.cell? ⟨w.heap.size, 2, none⟩ = some (.int .u32 0) := e2
    have d3 : w8.drew.cell? ⟨w.heap.size, 3, none⟩ = some (.int .i32 0) := e3
    clear e0 e1 e2 e3
    go_region_held3 (fun w' => w'.cell? ⟨w.heap.size, 0, none⟩ = some (.int .i64 mode) ∧ w'.cell? ⟨w.heap.size, 1, none⟩ = some (.int .i64 0) ∧ w'.cell? ⟨w.heap.size, 2, none⟩ = some (.int .u32 0) ∧ w'.cell? ⟨w.heap.size, 3, none⟩ = some (.int .i32 0)) (first | (with_reducible exact ⟨d0, d1, d2, d3⟩) | (with_reducible exact ⟨a0, a1, a2, a3⟩) | go_keep) (first | (go_at_call 24; (with_reducible refine (HU1.out _).mono ?_); rintro e wa ⟨rfl, hb⟩; rw [← HS1.out]; replace RZ := Lib.hid (blk_below RZ.out hb); clear r0 r1 r2 r3 r4 r5 q0 q1 q2 q3 q4 q5; have r0 := blk_cell RZ.out 0; have r1 := blk_cell RZ.out 1; have r2 := blk_cell RZ.out 2; have r3 := blk_cell RZ.out 3; have r4 := blk_cell RZ.out 4; have r5 := blk_cell RZ.out 5; have q0 := blk_frozen RZ.out 0; have q1 := blk_frozen RZ.out 1; have q2 := blk_frozen RZ.out 2; have q3 := blk_frozen RZ.out 3; have q4 := blk_frozen RZ.out 4; have q5 := blk_frozen RZ.out 5; have hsz := hb.size; replace HX := Lib.hid (below_on HX.out HZ.out hb); have hz := HZ.out; clear HZ; have HZ : Hid (w8.heap.size ≤ wa.heap.size) := Lib.hid (Nat.le_trans hz hsz); clear hb hz hsz; have a0 : wa.cell? ⟨w.heap.size, 0, none⟩ = some (.int .i64 mode) := (HX.out.cell (p := ⟨w.heap.size, 0, none⟩) hy9).trans d0; have a1 : wa.cell? ⟨w.heap.size, 1, none⟩ = some (.int .i64 0) := (HX.out.cell (p := ⟨w.heap.size, 1, none⟩) hy9).trans d1; have a2 : wa.cell? ⟨w.heap.size, 2, none⟩ = some (.int .u32 0) := (HX.out.cell (p := ⟨w.heap.size, 2, none⟩) hy9).trans d2; have a3 : wa.cell? ⟨w.heap.size, 3, none⟩ = some (.int .i32 0) := (HX.out.cell (p := ⟨w.heap.size, 3, none⟩) hy9).trans d3) | fail)
    all_goals
      have HBZ : Hid (Below w.heap.size w wa) := Lib.hid (HB7.out.trans (HX.out.mono (by omega)))
      go_wp2_with fail
      refine bodyPost_ret (results_cell_row rfl _ _ (w.heap.size + 1) 27 _ (0, 0) _ rfl (put6 RZ.out _ _ _ _ _ _) Try.underlying27 rfl (by kernel_rfl)) rfl ?_
      exact ⟨by rw [HR.out]; rfl, below6 HBZ.out (Nat.le_succ _) _ _ _ _ _ _⟩
  · skip
    have HFI : Hid (∀ W, Calls Try.prog 21 #[.int .i64 kind, .agg #[.int .i64 mode, .int .i64 0, .int .u32 0, .int .i32 0]] W fun e w' => e = .returned (.bool (decide (Fit true mode 0 0 0))) ∧ Below W.heap.size W w') := Lib.hid (fun W => rfitsC 0 0 0 W hk)
    unfold stV
    have HK := Lib.hid hk
    have HF := Lib.hid hf
    clear hk hf
    go_enter Try.func10, Try.ntmps10
    go_wp2_with fail
    refine (rhasC _ HK.out).mono ?_
    rintro e w1 ⟨rfl, hd⟩
    have hb := hd.below
    have ST1 : Hid ((w1).heap[w.heap.size]? = some (.cells #[.int .i64 mode, .int .i64 0, .int .u32 0, .int .i32 0] 24 (0, 0))) := Lib.hid (blk_below (blk_alloc (heap_alloc_new _ _) _) hb)
    have RK1 : Hid ((w1).heap[w.heap.size + 1]? = some (.cells #[.int .i64 0, .string ⟨#[]⟩, .int .i64 0, .int .i64 0, .int .u32 0, .int .i32 0] 27 (0, 0))) := Lib.hid (blk_below (blk_second _ _ _) hb)
    have HB1 : Hid (Below w.heap.size w (w1)) := Lib.hid (on (below_alloc (below_alloc (Below.refl _ _) _) _) hb)
    clear hb hd
    have hz1 : w.heap.size + 1 < w1.heap.size := blk_lt RK1.out
    have hy1 : w.heap.size < w1.heap.size := by omega
    have e0 := blk_cell ST1.out 0
    have e1 := blk_cell ST1.out 1
    have e2 := blk_cell ST1.out 2
    have e3 := blk_cell ST1.out 3
    go_wp2_with fail
    refine (HFI.out _).mono ?_
    rintro e w2 ⟨rfl, hb⟩
    have ST2 : Hid ((w2).heap[w.heap.size]? = some (.cells #[.int .i64 mode, .int .i64 0, .int .u32 0, .int .i32 0] 24 (0, 0))) := Lib.hid (blk_below ST1.out hb)
    have RK2 : Hid ((w2).heap[w.heap.size + 1]? = some (.cells #[.int .i64 0, .string ⟨#[]⟩, .int .i64 0, .int .i64 0, .int .u32 0, .int .i32 0] 27 (0, 0))) := Lib.hid (blk_below RK1.out hb)
    have HB2 : Hid (Below w.heap.size w (w2)) := Lib.hid (on HB1.out hb)
    clear hb ST1 RK1 HB1
    have hz2 : w.heap.size + 1 < w2.heap.size := blk_lt RK2.out
    have hy2 : w.heap.size < w2.heap.size := by omega
    rw [decide_eq_true HF.out]
    clear e0 e1 e2 e3
    go_wp2_with fail
    refine (rscalarC u _).mono ?_
    rintro e w3 ⟨rfl, hd⟩
    have hb := hd.below
    have ST3 : Hid ((w3).heap[w.heap.size]? = some (.cells #[.int .i64 mode, .int .i64 0, .int .u32 0, .int .i32 0] 24 (0, 0))) := Lib.hid (blk_below ST2.out hb)
    have RK3 : Hid ((w3).heap[w.heap.size + 1]? = some (.cells #[.int .i64 0, .string ⟨#[]⟩, .int .i64 0, .int .i64 0, .int .u32 0, .int .i32 0] 27 (0, 0))) := Lib.hid (blk_below RK2.out hb)
    have HB3 : Hid (Below w.heap.size w (w3)) := Lib.hid (on HB2.out hb)
    clear hb hd ST2 RK2 HB2
    have hz3 : w.heap.size + 1 < w3.heap.size := blk_lt RK3.out
    have hy3 : w.heap.size < w3.heap.size := by omega
    rw [HS.out]
    go_wp2_with fail
    refine (rsizeC _ HK.out).mono ?_
    rintro e w4 ⟨rfl, hd⟩
    have hb := hd.below
    have ST4 : Hid ((w4).heap[w.heap.size]? = some (.cells #[.int .i64 mode, .int .i64 0, .int .u32 0, .int .i32 0] 24 (0, 0))) := Lib.hid (blk_below ST3.out hb)
    have RK4 : Hid ((w4).heap[w.heap.size + 1]? = some (.cells #[.int .i64 0, .string ⟨#[]⟩, .int .i64 0, .int .i64 0, .int .u32 0, .int .i32 0] 27 (0, 0))) := Lib.hid (blk_below RK3.out hb)
    have HB4 : Hid (Below w.heap.size w (w4)) := Lib.hid (on HB3.out hb)
    clear hb hd ST3 RK3 HB3
    have hz4 : w.heap.size + 1 < w4.heap.size := blk_lt RK4.out
    have hy4 : w.heap.size < w4.heap.size := by omega
    have e0 := blk_cell ST4.out 0
    have e1 := blk_cell ST4.out 1
    have e2 := blk_cell ST4.out 2
    have e3 := blk_cell ST4.out 3
    go_wp2_with fail
    refine (rmarkedC _ HK.out).mono ?_
    rintro e w5 ⟨rfl, hd⟩
    have hb := hd.below
    have ST5 : Hid ((w5).heap[w.heap.size]? = some (.cells #[.int .i64 mode, .int .i64 0, .int .u32 0, .int .i32 0] 24 (0, 0))) := Lib.hid (blk_below ST4.out hb)
    have RK5 : Hid ((w5).heap[w.heap.size + 1]? = some (.cells #[.int .i64 0, .string ⟨#[]⟩, .int .i64 0, .int .i64 0, .int .u32 0, .int .i32 0] 27 (0, 0))) := Lib.hid (blk_below RK4.out hb)
    have HB5 : Hid (Below w.heap.size w (w5)) := Lib.hid (on HB4.out hb)
    clear hb hd ST4 RK4 HB4
    have hz5 : w.heap.size + 1 < w5.heap.size := blk_lt RK5.out
    have hy5 : w.heap.size < w5.heap.size := by omega
    clear e0 e1 e2 e3
    have e0 := blk_cell ST5.out 0
    have e1 := blk_cell ST5.out 1
    have e2 := blk_cell ST5.out 2
    have e3 := blk_cell ST5.out 3
    go_wp2_with fail
    refine (rlittleC _ HK.out).mono ?_
    rintro e w7 ⟨rfl, hd⟩
    have hb := hd.below
    have ST6 : Hid ((w7).heap[w.heap.size]? = some (.cells #[.int .i64 mode, .int .i64 0, .int .u32 0, .int .i32 0] 24 (0, 0))) := Lib.hid (blk_below ST5.out hb)
    have RK6 : Hid ((w7).heap[w.heap.size + 1]? = some (.cells #[.int .i64 0, .string ⟨#[]⟩, .int .i64 0, .int .i64 0, .int .u32 0, .int .i32 0] 27 (0, 0))) := Lib.hid (blk_below RK5.out hb)
    have HB6 : Hid (Below w.heap.size w (w7)) := Lib.hid (on HB5.out hb)
    clear hb hd ST5 RK5 HB5
    have hz6 : w.heap.size + 1 < w7.heap.size := blk_lt RK6.out
    have hy6 : w.heap.size < w7.heap.size := by omega
    clear e0 e1 e2 e3
    go_wp2_with fail
    refine (HSP.out _).mono ?_
    rintro e w8 ⟨rfl, hd⟩
    have hb := hd.below
    have ST7 : Hid ((w8).heap[w.heap.size]? = some (.cells #[.int .i64 mode, .int .i64 0, .int .u32 0, .int .i32 0] 24 (0, 0))) := Lib.hid (blk_below ST6.out hb)
    have RK7 : Hid ((w8).heap[w.heap.size + 1]? = some (.cells #[.int .i64 0, .string ⟨#[]⟩, .int .i64 0, .int .i64 0, .int .u32 0, .int .i32 0] 27 (0, 0))) := Lib.hid (blk_below RK6.out hb)
    have HB7 : Hid (Below w.heap.size w (w8)) := Lib.hid (on HB6.out hb)
    clear hb hd ST6 RK6 HB6
    have hz7 : w.heap.size + 1 < w8.heap.size := blk_lt RK7.out
    have hy7 : w.heap.size < w8.heap.size := by omega
    go_wp2_with fail
    have e0 := blk_cell ST7.out 0
    have e1 := blk_cell ST7.out 1
    have e2 := blk_cell ST7.out 2
    have e3 := blk_cell ST7.out 3
    have HX : Hid (Below w8.heap.size w8 w8.drew) := Lib.hid (below_drew (Below.refl _ _))
    have RZ : Hid (w8.drew.heap[w.heap.size + 1]? = some (.cells #[.int .i64 0, .string ⟨#[]⟩, .int .i64 0, .int .i64 0, .int .u32 0, .int .i32 0] 27 (0, 0))) := Lib.hid RK7.out
    have HZ : Hid (w8.heap.size ≤ w8.drew.heap.size) := Lib.hid (Nat.le_refl _)
    have hy9 : w.heap.size < w8.heap.size := by omega
    have r0 := blk_cell RZ.out 0
    have r1 := blk_cell RZ.out 1
    have r2 := blk_cell RZ.out 2
    have r3 := blk_cell RZ.out 3
    have r4 := blk_cell RZ.out 4
    have r5 := blk_cell RZ.out 5
    have q0 := blk_frozen RZ.out 0
    have q1 := blk_frozen RZ.out 1
    have q2 := blk_frozen RZ.out 2
    have q3 := blk_frozen RZ.out 3
    have q4 := blk_frozen RZ.out 4
    have q5 := blk_frozen RZ.out 5
    have d0 : w8.drew.cell? ⟨w.heap.size, 0, none⟩ = some (.int .i64 mode) := e0
    have d1 : w8.drew.cell? ⟨w.heap.size, 1, none⟩ = some (.int .i64 0) := e1
    have d2 : w8.drew.cell? ⟨w.heap.size, 2, none⟩ = some (.int .u32 0) := e2
    have d3 : w8.drew.cell? ⟨w.heap.size, 3, none⟩ = some (.int .i32 0) := e3
    clear e0 e1 e2 e3
    go_region_held3 (fun w' => w'.cell? ⟨w.heap.size, 0, none⟩ = some (.int .i64 mode) ∧ w'.cell? ⟨w.heap.size, 1, none⟩ = some (.int .i64 0) ∧ w'.cell? ⟨w.heap.size, 2, none⟩ = some (.int .u32 0) ∧ w'.cell? ⟨w.heap.size, 3, none⟩ = some (.int .i32 0)) (first | (with_reducible exact ⟨d0, d1, d2, d3⟩) | (with_reducible exact ⟨a0, a1, a2, a3⟩) | go_keep) (first | (go_at_call 24; (with_reducible refine (HU1.out _).mono ?_); rintro e wa ⟨rfl, hb⟩; rw [← HS1.out]; replace RZ := Lib.hid (blk_below RZ.out hb); clear r0 r1 r2 r3 r4 r5 q0 q1 q2 q3 q4 q5; have r0 := blk_cell RZ.out 0; have r1 := blk_cell RZ.out 1; have r2 := blk_cell RZ.out 2; have r3 := blk_cell RZ.out 3; have r4 := blk_cell RZ.out 4; have r5 := blk_cell RZ.out 5; have q0 := blk_frozen RZ.out 0; have q1 := blk_frozen RZ.out 1; have q2 := blk_frozen RZ.out 2; have q3 := blk_frozen RZ.out 3; have q4 := blk_frozen RZ.out 4; have q5 := blk_frozen RZ.out 5; have hsz := hb.size; replace HX := Lib.hid (below_on HX.out HZ.out hb); have hz := HZ.out; clear HZ; have HZ : Hid (w8.heap.size ≤ wa.heap.size) := Lib.hid (Nat.le_trans hz hsz); clear hb hz hsz; have a0 : wa.cell? ⟨w.heap.size, 0, none⟩ = some (.int .i64 mode) := (HX.out.cell (p := ⟨w.heap.size, 0, none⟩) hy9).trans d0; have a1 : wa.cell? ⟨w.heap.size, 1, none⟩ = some (.int .i64 0) := (HX.out.cell (p := ⟨w.heap.size, 1, none⟩) hy9).trans d1; have a2 : wa.cell? ⟨w.heap.size, 2, none⟩ = some (.int .u32 0) := (HX.out.cell (p := ⟨w.heap.size, 2, none⟩) hy9).trans d2; have a3 : wa.cell? ⟨w.heap.size, 3, none⟩ = some (.int .i32 0) := (HX.out.cell (p := ⟨w.heap.size, 3, none⟩) hy9).trans d3) | fail)
    all_goals
      have HBZ : Hid (Below w.heap.size w wa) := Lib.hid (HB7.out.trans (HX.out.mono (by omega)))
      go_wp2_with fail
      refine bodyPost_ret (results_cell_row rfl _ _ (w.heap.size + 1) 27 _ (0, 0) _ rfl (put6 RZ.out _ _ _ _ _ _) Try.underlying27 rfl (by kernel_rfl)) rfl ?_
      exact ⟨by rw [HR.out]; rfl, below6 HBZ.out (Nat.le_succ _) _ _ _ _ _ _⟩
set_option maxHeartbeats 4000000 in
set_option maxRecDepth 100000 in
theorem rset_one4b (kind mode u : Int) (marks : Bool) (low : Bool) (w : World) (hk : shp kind mode = some (4, false, marks, low)) (hf : Fit marks mode 0 0 0) (hm : ¬ (marks = true ∧ mode = 0)) (hs : Scal u) (h6 : 65536 ≤ u)(h9 : (kind == 9) = false) (h10 : (kind == 10) = false) :
    Calls Try.prog 10 #[.int .i64 kind, stV mode 0 0 0, .int .i32 u] w fun en w' => en = .returned (putV 0 (strOfNums (un low 4 u)) mode) ∧ Below w.heap.size w w' := by
  have hs0 : 0 ≤ u ∧ u ≤ 1114111 := ⟨hs.1, hs.2.1⟩
  have HSP := Lib.hid (fun W => rsplitC (u := u) W h6 hs0.2)
  have HU1 : Hid (∀ W, Calls Try.prog 24 #[.int .u32 u, .int .i64 4, .bool low] W fun e w' => e = .returned (.string (strOfNums (un low 4 u))) ∧ Below W.heap.size W w') := Lib.hid (fun W => runitC low W (by omega) (by omega) (by decide))
  have hz1 : (strOfNums (un low 4 u)).size ≤ 4 := by rw [str_size]; have := un_len low (show (4 : Int) = 2 ∨ (4 : Int) = 4 by decide) u; omega
  obtain ⟨S1, hS1⟩ : ∃ S, S = strOfNums (un low 4 u) := ⟨_, rfl⟩
  rw [← hS1] at hz1
  have HS1 := Lib.hid hS1
  have hwx : IntKind.u32.wrap u = u := by rw [IntKind.wrap_u32]; omega
  have HR : Hid (strOfNums (un low 4 u) = S1) := Lib.hid (by rw [hS1])
  clear hS1
  have k0 : ¬ 9223372036854775807 < S1.size := by omega
  have hu : 65535 < u := by omega
  have HS : Hid (decide (Scal u) = true) := Lib.hid (decide_eq_true hs)
  clear hs
  have hmm : marks = false ∨ (marks = true ∧ (mode == 0) = false) := by cases marks; exact .inl rfl; exact .inr ⟨rfl, beq_eq_false_iff_ne.2 fun h0 => hm ⟨rfl, h0⟩⟩
  clear hm
  rcases hmm with rfl | ⟨rfl, hmm⟩
  · skip
    have HFI : Hid (∀ W, Calls Try.prog 21 #[.int .i64 kind, .agg #[.int .i64 mode, .int .i64 0, .int .u32 0, .int .i32 0]] W fun e w' => e = .returned (.bool (decide (Fit false mode 0 0 0))) ∧ Below W.heap.size W w') := Lib.hid (fun W => rfitsC 0 0 0 W hk)
    unfold stV
    have HK := Lib.hid hk
    have HF := Lib.hid hf
    clear hk hf
    go_enter Try.func10, Try.ntmps10
    go_wp2_with fail
    refine (rhasC _ HK.out).mono ?_
    rintro e w1 ⟨rfl, hd⟩
    have hb := hd.below
    have ST1 : Hid ((w1).heap[w.heap.size]? = some (.cells #[.int .i64 mode, .int .i64 0, .int .u32 0, .int .i32 0] 24 (0, 0))) := Lib.hid (blk_below (blk_alloc (heap_alloc_new _ _) _) hb)
    have RK1 : Hid ((w1).heap[w.heap.size + 1]? = some (.cells #[.int .i64 0, .string ⟨#[]⟩, .int .i64 0, .int .i64 0, .int .u32 0, .int .i32 0] 27 (0, 0))) := Lib.hid (blk_below (blk_second _ _ _) hb)
    have HB1 : Hid (Below w.heap.size w (w1)) := Lib.hid (on (below_alloc (below_alloc (Below.refl _ _) _) _) hb)
    clear hb hd
    have hz1 : w.heap.size + 1 < w1.heap.size := blk_lt RK1.out
    have hy1 : w.heap.size < w1.heap.size := by omega
    have e0 := blk_cell ST1.out 0
    have e1 := blk_cell ST1.out 1
    have e2 := blk_cell ST1.out 2
    have e3 := blk_cell ST1.out 3
    go_wp2_with fail
    refine (HFI.out _).mono ?_
    rintro e w2 ⟨rfl, hb⟩
    have ST2 : Hid ((w2).heap[w.heap.size]? = some (.cells #[.int .i64 mode, .int .i64 0, .int .u32 0, .int .i32 0] 24 (0, 0))) := Lib.hid (blk_below ST1.out hb)
    have RK2 : Hid ((w2).heap[w.heap.size + 1]? = some (.cells #[.int .i64 0, .string ⟨#[]⟩, .int .i64 0, .int .i64 0, .int .u32 0, .int .i32 0] 27 (0, 0))) := Lib.hid (blk_below RK1.out hb)
    have HB2 : Hid (Below w.heap.size w (w2)) := Lib.hid (on HB1.out hb)
    clear hb ST1 RK1 HB1
    have hz2 : w.heap.size + 1 < w2.heap.size := blk_lt RK2.out
    have hy2 : w.heap.size < w2.heap.size := by omega
    rw [decide_eq_true HF.out]
    clear e0 e1 e2 e3
    go_wp2_with fail
    refine (rscalarC u _).mono ?_
    rintro e w3 ⟨rfl, hd⟩
    have hb := hd.below
    have ST3 : Hid ((w3).heap[w.heap.size]? = some (.cells #[.int .i64 mode, .int .i64 0, .int .u32 0, .int .i32 0] 24 (0, 0))) := Lib.hid (blk_below ST2.out hb)
    have RK3 : Hid ((w3).heap[w.heap.size + 1]? = some (.cells #[.int .i64 0, .string ⟨#[]⟩, .int .i64 0, .int .i64 0, .int .u32 0, .int .i32 0] 27 (0, 0))) := Lib.hid (blk_below RK2.out hb)
    have HB3 : Hid (Below w.heap.size w (w3)) := Lib.hid (on HB2.out hb)
    clear hb hd ST2 RK2 HB2
    have hz3 : w.heap.size + 1 < w3.heap.size := blk_lt RK3.out
    have hy3 : w.heap.size < w3.heap.size := by omega
    rw [HS.out]
    go_wp2_with fail
    refine (rsizeC _ HK.out).mono ?_
    rintro e w4 ⟨rfl, hd⟩
    have hb := hd.below
    have ST4 : Hid ((w4).heap[w.heap.size]? = some (.cells #[.int .i64 mode, .int .i64 0, .int .u32 0, .int .i32 0] 24 (0, 0))) := Lib.hid (blk_below ST3.out hb)
    have RK4 : Hid ((w4).heap[w.heap.size + 1]? = some (.cells #[.int .i64 0, .string ⟨#[]⟩, .int .i64 0, .int .i64 0, .int .u32 0, .int .i32 0] 27 (0, 0))) := Lib.hid (blk_below RK3.out hb)
    have HB4 : Hid (Below w.heap.size w (w4)) := Lib.hid (on HB3.out hb)
    clear hb hd ST3 RK3 HB3
    have hz4 : w.heap.size + 1 < w4.heap.size := blk_lt RK4.out
    have hy4 : w.heap.size < w4.heap.size := by omega
    have e0 := blk_cell ST4.out 0
    have e1 := blk_cell ST4.out 1
    have e2 := blk_cell ST4.out 2
    have e3 := blk_cell ST4.out 3
    go_wp2_with fail
    refine (rmarkedC _ HK.out).mono ?_
    rintro e w5 ⟨rfl, hd⟩
    have hb := hd.below
    have ST5 : Hid ((w5).heap[w.heap.size]? = some (.cells #[.int .i64 mode, .int .i64 0, .int .u32 0, .int .i32 0] 24 (0, 0))) := Lib.hid (blk_below ST4.out hb)
    have RK5 : Hid ((w5).heap[w.heap.size + 1]? = some (.cells #[.int .i64 0, .string ⟨#[]⟩, .int .i64 0, .int .i64 0, .int .u32 0, .int .i32 0] 27 (0, 0))) := Lib.hid (blk_below RK4.out hb)
    have HB5 : Hid (Below w.heap.size w (w5)) := Lib.hid (on HB4.out hb)
    clear hb hd ST4 RK4 HB4
    have hz5 : w.heap.size + 1 < w5.heap.size := blk_lt RK5.out
    have hy5 : w.heap.size < w5.heap.size := by omega
    clear e0 e1 e2 e3
    have e0 := blk_cell ST5.out 0
    have e1 := blk_cell ST5.out 1
    have e2 := blk_cell ST5.out 2
    have e3 := blk_cell ST5.out 3
    go_wp2_with fail
    refine (rlittleC _ HK.out).mono ?_
    rintro e w7 ⟨rfl, hd⟩
    have hb := hd.below
    have ST6 : Hid ((w7).heap[w.heap.size]? = some (.cells #[.int .i64 mode, .int .i64 0, .int .u32 0, .int .i32 0] 24 (0, 0))) := Lib.hid (blk_below ST5.out hb)
    have RK6 : Hid ((w7).heap[w.heap.size + 1]? = some (.cells #[.int .i64 0, .string ⟨#[]⟩, .int .i64 0, .int .i64 0, .int .u32 0, .int .i32 0] 27 (0, 0))) := Lib.hid (blk_below RK5.out hb)
    have HB6 : Hid (Below w.heap.size w (w7)) := Lib.hid (on HB5.out hb)
    clear hb hd ST5 RK5 HB5
    have hz6 : w.heap.size + 1 < w7.heap.size := blk_lt RK6.out
    have hy6 : w.heap.size < w7.heap.size := by omega
    clear e0 e1 e2 e3
    go_wp2_with fail
    refine (HSP.out _).mono ?_
    rintro e w8 ⟨rfl, hd⟩
    have hb := hd.below
    have ST7 : Hid ((w8).heap[w.heap.size]? = some (.cells #[.int .i64 mode, .int .i64 0, .int .u32 0, .int .i32 0] 24 (0, 0))) := Lib.hid (blk_below ST6.out hb)
    have RK7 : Hid ((w8).heap[w.heap.size + 1]? = some (.cells #[.int .i64 0, .string ⟨#[]⟩, .int .i64 0, .int .i64 0, .int .u32 0, .int .i32 0] 27 (0, 0))) := Lib.hid (blk_below RK6.out hb)
    have HB7 : Hid (Below w.heap.size w (w8)) := Lib.hid (on HB6.out hb)
    clear hb hd ST6 RK6 HB6
    have hz7 : w.heap.size + 1 < w8.heap.size := blk_lt RK7.out
    have hy7 : w.heap.size < w8.heap.size := by omega
    go_wp2_with fail
    have e0 := blk_cell ST7.out 0
    have e1 := blk_cell ST7.out 1
    have e2 := blk_cell ST7.out 2
    have e3 := blk_cell ST7.out 3
    have HX : Hid (Below w8.heap.size w8 w8.drew) := Lib.hid (below_drew (Below.refl _ _))
    have RZ : Hid (w8.drew.heap[w.heap.size + 1]? = some (.cells #[.int .i64 0, .string ⟨#[]⟩, .int .i64 0, .int .i64 0, .int .u32 0, .int .i32 0] 27 (0, 0))) := Lib.hid RK7.out
    have HZ : Hid (w8.heap.size ≤ w8.drew.heap.size) := Lib.hid (Nat.le_refl _)
    have hy9 : w.heap.size < w8.heap.size := by omega
    have r0 := blk_cell RZ.out 0
    have r1 := blk_cell RZ.out 1
    have r2 := blk_cell RZ.out 2
    have r3 := blk_cell RZ.out 3
    have r4 := blk_cell RZ.out 4
    have r5 := blk_cell RZ.out 5
    have q0 := blk_frozen RZ.out 0
    have q1 := blk_frozen RZ.out 1
    have q2 := blk_frozen RZ.out 2
    have q3 := blk_frozen RZ.out 3
    have q4 := blk_frozen RZ.out 4
    have q5 := blk_frozen RZ.out 5
    have d0 : w8.drew.cell? ⟨w.heap.size, 0, none⟩ = some (.int .i64 mode) := e0
    have d1 : w8.drew.cell? ⟨w.heap.size, 1, none⟩ = some (.int .i64 0) := e1
    have d2 : w8.drew.cell? ⟨w.heap.size, 2, none⟩ = some (.int .u32 0) := e2
    have d3 : w8.drew.cell? ⟨w.heap.size, 3, none⟩ = some (.int .i32 0) := e3
    clear e0 e1 e2 e3
    go_region_held3 (fun w' => w'.cell? ⟨w.heap.size, 0, none⟩ = some (.int .i64 mode) ∧ w'.cell? ⟨w.heap.size, 1, none⟩ = some (.int .i64 0) ∧ w'.cell? ⟨w.heap.size, 2, none⟩ = some (.int .u32 0) ∧ w'.cell? ⟨w.heap.size, 3, none⟩ = some (.int .i32 0)) (first | (with_reducible exact ⟨d0, d1, d2, d3⟩) | (with_reducible exact ⟨a0, a1, a2, a3⟩) | go_keep) (first | (go_at_call 24; (with_reducible refine (HU1.out _).mono ?_); rintro e wa ⟨rfl, hb⟩; rw [← HS1.out]; replace RZ := Lib.hid (blk_below RZ.out hb); clear r0 r1 r2 r3 r4 r5 q0 q1 q2 q3 q4 q5; have r0 := blk_cell RZ.out 0; have r1 := blk_cell RZ.out 1; have r2 := blk_cell RZ.out 2; have r3 := blk_cell RZ.out 3; have r4 := blk_cell RZ.out 4; have r5 := blk_cell RZ.out 5; have q0 := blk_frozen RZ.out 0; have q1 := blk_frozen RZ.out 1; have q2 := blk_frozen RZ.out 2; have q3 := blk_frozen RZ.out 3; have q4 := blk_frozen RZ.out 4; have q5 := blk_frozen RZ.out 5; have hsz := hb.size; replace HX := Lib.hid (below_on HX.out HZ.out hb); have hz := HZ.out; clear HZ; have HZ : Hid (w8.heap.size ≤ wa.heap.size) := Lib.hid (Nat.le_trans hz hsz); clear hb hz hsz; have a0 : wa.cell? ⟨w.heap.size, 0, none⟩ = some (.int .i64 mode) := (HX.out.cell (p := ⟨w.heap.size, 0, none⟩) hy9).trans d0; have a1 : wa.cell? ⟨w.heap.size, 1, none⟩ = some (.int .i64 0) := (HX.out.cell (p := ⟨w.heap.size, 1, none⟩) hy9).trans d1; have a2 : wa.cell? ⟨w.heap.size, 2, none⟩ = some (.int .u32 0) := (HX.out.cell (p := ⟨w.heap.size, 2, none⟩) hy9).trans d2; have a3 : wa.cell? ⟨w.heap.size, 3, none⟩ = some (.int .i32 0) := (HX.out.cell (p := ⟨w.heap.size, 3, none⟩) hy9).trans d3) | fail)
    all_goals
      have HBZ : Hid (Below w.heap.size w wa) := Lib.hid (HB7.out.trans (HX.out.mono (by omega)))
      go_wp2_with fail
      refine bodyPost_ret (results_cell_row rfl _ _ (w.heap.size + 1) 27 _ (0, 0) _ rfl (put6 RZ.out _ _ _ _ _ _) Try.underlying27 rfl (by kernel_rfl)) rfl ?_
      exact ⟨by rw [HR.out]; rfl, below6 HBZ.out (Nat.le_succ _) _ _ _ _ _ _⟩
  · skip
    have HFI : Hid (∀ W, Calls Try.prog 21 #[.int .i64 kind, .agg #[.int .i64 mode, .int .i64 0, .int .u32 0, .int .i32 0]] W fun e w' => e = .returned (.bool (decide (Fit true mode 0 0 0))) ∧ Below W.heap.size W w') := Lib.hid (fun W => rfitsC 0 0 0 W hk)
    unfold stV
    have HK := Lib.hid hk
    have HF := Lib.hid hf
    clear hk hf
    go_enter Try.func10, Try.ntmps10
    go_wp2_with fail
    refine (rhasC _ HK.out).mono ?_
    rintro e w1 ⟨rfl, hd⟩
    have hb := hd.below
    have ST1 : Hid ((w1).heap[w.heap.size]? = some (.cells #[.int .i64 mode, .int .i64 0, .int .u32 0, .int .i32 0] 24 (0, 0))) := Lib.hid (blk_below (blk_alloc (heap_alloc_new _ _) _) hb)
    have RK1 : Hid ((w1).heap[w.heap.size + 1]? = some (.cells #[.int .i64 0, .string ⟨#[]⟩, .int .i64 0, .int .i64 0, .int .u32 0, .int .i32 0] 27 (0, 0))) := Lib.hid (blk_below (blk_second _ _ _) hb)
    have HB1 : Hid (Below w.heap.size w (w1)) := Lib.hid (on (below_alloc (below_alloc (Below.refl _ _) _) _) hb)
    clear hb hd
    have hz1 : w.heap.size + 1 < w1.heap.size := blk_lt RK1.out
    have hy1 : w.heap.size < w1.heap.size := by omega
    have e0 := blk_cell ST1.out 0
    have e1 := blk_cell ST1.out 1
    have e2 := blk_cell ST1.out 2
    have e3 := blk_cell ST1.out 3
    go_wp2_with fail
    refine (HFI.out _).mono ?_
    rintro e w2 ⟨rfl, hb⟩
    have ST2 : Hid ((w2).heap[w.heap.size]? = some (.cells #[.int .i64 mode, .int .i64 0, .int .u32 0, .int .i32 0] 24 (0, 0))) := Lib.hid (blk_below ST1.out hb)
    have RK2 : Hid ((w2).heap[w.heap.size + 1]? = some (.cells #[.int .i64 0, .string ⟨#[]⟩, .int .i64 0, .int .i64 0, .int .u32 0, .int .i32 0] 27 (0, 0))) := Lib.hid (blk_below RK1.out hb)
    have HB2 : Hid (Below w.heap.size w (w2)) := Lib.hid (on HB1.out hb)
    clear hb ST1 RK1 HB1
    have hz2 : w.heap.size + 1 < w2.heap.size := blk_lt RK2.out
    have hy2 : w.heap.size < w2.heap.size := by omega
    rw [decide_eq_true HF.out]
    clear e0 e1 e2 e3
    go_wp2_with fail
    refine (rscalarC u _).mono ?_
    rintro e w3 ⟨rfl, hd⟩
    have hb := hd.below
    have ST3 : Hid ((w3).heap[w.heap.size]? = some (.cells #[.int .i64 mode, .int .i64 0, .int .u32 0, .int .i32 0] 24 (0, 0))) := Lib.hid (blk_below ST2.out hb)
    have RK3 : Hid ((w3).heap[w.heap.size + 1]? = some (.cells #[.int .i64 0, .string ⟨#[]⟩, .int .i64 0, .int .i64 0, .int .u32 0, .int .i32 0] 27 (0, 0))) := Lib.hid (blk_below RK2.out hb)
    have HB3 : Hid (Below w.heap.size w (w3)) := Lib.hid (on HB2.out hb)
    clear hb hd ST2 RK2 HB2
    have hz3 : w.heap.size + 1 < w3.heap.size := blk_lt RK3.out
    have hy3 : w.heap.size < w3.heap.size := by omega
    rw [HS.out]
    go_wp2_with fail
    refine (rsizeC _ HK.out).mono ?_
    rintro e w4 ⟨rfl, hd⟩
    have hb := hd.below
    have ST4 : Hid ((w4).heap[w.heap.size]? = some (.cells #[.int .i64 mode, .int .i64 0, .int .u32 0, .int .i32 0] 24 (0, 0))) := Lib.hid (blk_below ST3.out hb)
    have RK4 : Hid ((w4).heap[w.heap.size + 1]? = some (.cells #[.int .i64 0, .string ⟨#[]⟩, .int .i64 0, .int .i64 0, .int .u32 0, .int .i32 0] 27 (0, 0))) := Lib.hid (blk_below RK3.out hb)
    have HB4 : Hid (Below w.heap.size w (w4)) := Lib.hid (on HB3.out hb)
    clear hb hd ST3 RK3 HB3
    have hz4 : w.heap.size + 1 < w4.heap.size := blk_lt RK4.out
    have hy4 : w.heap.size < w4.heap.size := by omega
    have e0 := blk_cell ST4.out 0
    have e1 := blk_cell ST4.out 1
    have e2 := blk_cell ST4.out 2
    have e3 := blk_cell ST4.out 3
    go_wp2_with fail
    refine (rmarkedC _ HK.out).mono ?_
    rintro e w5 ⟨rfl, hd⟩
    have hb := hd.below
    have ST5 : Hid ((w5).heap[w.heap.size]? = some (.cells #[.int .i64 mode, .int .i64 0, .int .u32 0, .int .i32 0] 24 (0, 0))) := Lib.hid (blk_below ST4.out hb)
    have RK5 : Hid ((w5).heap[w.heap.size + 1]? = some (.cells #[.int .i64 0, .string ⟨#[]⟩, .int .i64 0, .int .i64 0, .int .u32 0, .int .i32 0] 27 (0, 0))) := Lib.hid (blk_below RK4.out hb)
    have HB5 : Hid (Below w.heap.size w (w5)) := Lib.hid (on HB4.out hb)
    clear hb hd ST4 RK4 HB4
    have hz5 : w.heap.size + 1 < w5.heap.size := blk_lt RK5.out
    have hy5 : w.heap.size < w5.heap.size := by omega
    clear e0 e1 e2 e3
    have e0 := blk_cell ST5.out 0
    have e1 := blk_cell ST5.out 1
    have e2 := blk_cell ST5.out 2
    have e3 := blk_cell ST5.out 3
    go_wp2_with fail
    refine (rlittleC _ HK.out).mono ?_
    rintro e w7 ⟨rfl, hd⟩
    have hb := hd.below
    have ST6 : Hid ((w7).heap[w.heap.size]? = some (.cells #[.int .i64 mode, .int .i64 0, .int .u32 0, .int .i32 0] 24 (0, 0))) := Lib.hid (blk_below ST5.out hb)
    have RK6 : Hid ((w7).heap[w.heap.size + 1]? = some (.cells #[.int .i64 0, .string ⟨#[]⟩, .int .i64 0, .int .i64 0, .int .u32 0, .int .i32 0] 27 (0, 0))) := Lib.hid (blk_below RK5.out hb)
    have HB6 : Hid (Below w.heap.size w (w7)) := Lib.hid (on HB5.out hb)
    clear hb hd ST5 RK5 HB5
    have hz6 : w.heap.size + 1 < w7.heap.size := blk_lt RK6.out
    have hy6 : w.heap.size < w7.heap.size := by omega
    clear e0 e1 e2 e3
    go_wp2_with fail
    refine (HSP.out _).mono ?_
    rintro e w8 ⟨rfl, hd⟩
    have hb := hd.below
    have ST7 : Hid ((w8).heap[w.heap.size]? = some (.cells #[.int .i64 mode, .int .i64 0, .int .u32 0, .int .i32 0] 24 (0, 0))) := Lib.hid (blk_below ST6.out hb)
    have RK7 : Hid ((w8).heap[w.heap.size + 1]? = some (.cells #[.int .i64 0, .string ⟨#[]⟩, .int .i64 0, .int .i64 0, .int .u32 0, .int .i32 0] 27 (0, 0))) := Lib.hid (blk_below RK6.out hb)
    have HB7 : Hid (Below w.heap.size w (w8)) := Lib.hid (on HB6.out hb)
    clear hb hd ST6 RK6 HB6
    have hz7 : w.heap.size + 1 < w8.heap.size := blk_lt RK7.out
    have hy7 : w.heap.size < w8.heap.size := by omega
    go_wp2_with fail
    have e0 := blk_cell ST7.out 0
    have e1 := blk_cell ST7.out 1
    have e2 := blk_cell ST7.out 2
    have e3 := blk_cell ST7.out 3
    have HX : Hid (Below w8.heap.size w8 w8.drew) := Lib.hid (below_drew (Below.refl _ _))
    have RZ : Hid (w8.drew.heap[w.heap.size + 1]? = some (.cells #[.int .i64 0, .string ⟨#[]⟩, .int .i64 0, .int .i64 0, .int .u32 0, .int .i32 0] 27 (0, 0))) := Lib.hid RK7.out
    have HZ : Hid (w8.heap.size ≤ w8.drew.heap.size) := Lib.hid (Nat.le_refl _)
    have hy9 : w.heap.size < w8.heap.size := by omega
    have r0 := blk_cell RZ.out 0
    have r1 := blk_cell RZ.out 1
    have r2 := blk_cell RZ.out 2
    have r3 := blk_cell RZ.out 3
    have r4 := blk_cell RZ.out 4
    have r5 := blk_cell RZ.out 5
    have q0 := blk_frozen RZ.out 0
    have q1 := blk_frozen RZ.out 1
    have q2 := blk_frozen RZ.out 2
    have q3 := blk_frozen RZ.out 3
    have q4 := blk_frozen RZ.out 4
    have q5 := blk_frozen RZ.out 5
    have d0 : w8.drew.cell? ⟨w.heap.size, 0, none⟩ = some (.int .i64 mode) := e0
    have d1 : w8.drew.cell? ⟨w.heap.size, 1, none⟩ = some (.int .i64 0) := e1
    have d2 : w8.drew.cell? ⟨w.heap.size, 2, none⟩ = some (.int .u32 0) := e2
    have d3 : w8.drew.cell? ⟨w.heap.size, 3, none⟩ = some (.int .i32 0) := e3
    clear e0 e1 e2 e3
    go_region_held3 (fun w' => w'.cell? ⟨w.heap.size, 0, none⟩ = some (.int .i64 mode) ∧ w'.cell? ⟨w.heap.size, 1, none⟩ = some (.int .i64 0) ∧ w'.cell? ⟨w.heap.size, 2, none⟩ = some (.int .u32 0) ∧ w'.cell? ⟨w.heap.size, 3, none⟩ = some (.int .i32 0)) (first | (with_reducible exact ⟨d0, d1, d2, d3⟩) | (with_reducible exact ⟨a0, a1, a2, a3⟩) | go_keep) (first | (go_at_call 24; (with_reducible refine (HU1.out _).mono ?_); rintro e wa ⟨rfl, hb⟩; rw [← HS1.out]; replace RZ := Lib.hid (blk_below RZ.out hb); clear r0 r1 r2 r3 r4 r5 q0 q1 q2 q3 q4 q5; have r0 := blk_cell RZ.out 0; have r1 := blk_cell RZ.out 1; have r2 := blk_cell RZ.out 2; have r3 := blk_cell RZ.out 3; have r4 := blk_cell RZ.out 4; have r5 := blk_cell RZ.out 5; have q0 := blk_frozen RZ.out 0; have q1 := blk_frozen RZ.out 1; have q2 := blk_frozen RZ.out 2; have q3 := blk_frozen RZ.out 3; have q4 := blk_frozen RZ.out 4; have q5 := blk_frozen RZ.out 5; have hsz := hb.size; replace HX := Lib.hid (below_on HX.out HZ.out hb); have hz := HZ.out; clear HZ; have HZ : Hid (w8.heap.size ≤ wa.heap.size) := Lib.hid (Nat.le_trans hz hsz); clear hb hz hsz; have a0 : wa.cell? ⟨w.heap.size, 0, none⟩ = some (.int .i64 mode) := (HX.out.cell (p := ⟨w.heap.size, 0, none⟩) hy9).trans d0; have a1 : wa.cell? ⟨w.heap.size, 1, none⟩ = some (.int .i64 0) := (HX.out.cell (p := ⟨w.heap.size, 1, none⟩) hy9).trans d1; have a2 : wa.cell? ⟨w.heap.size, 2, none⟩ = some (.int .u32 0) := (HX.out.cell (p := ⟨w.heap.size, 2, none⟩) hy9).trans d2; have a3 : wa.cell? ⟨w.heap.size, 3, none⟩ = some (.int .i32 0) := (HX.out.cell (p := ⟨w.heap.size, 3, none⟩) hy9).trans d3) | fail)
    all_goals
      have HBZ : Hid (Below w.heap.size w wa) := Lib.hid (HB7.out.trans (HX.out.mono (by omega)))
      go_wp2_with fail
      refine bodyPost_ret (results_cell_row rfl _ _ (w.heap.size + 1) 27 _ (0, 0) _ rfl (put6 RZ.out _ _ _ _ _ _) Try.underlying27 rfl (by kernel_rfl)) rfl ?_
      exact ⟨by rw [HR.out]; rfl, below6 HBZ.out (Nat.le_succ _) _ _ _ _ _ _⟩
set_option maxHeartbeats 4000000 in
set_option maxRecDepth 100000 in
theorem rset_two (kind mode u : Int) (marks : Bool) (low : Bool) (w : World) (hk : shp kind mode = some (2, true, marks, low)) (hf : Fit marks mode 0 0 0) (hm : ¬ (marks = true ∧ mode = 0)) (hs : Scal u) (h6 : 65536 ≤ u)(h9 : (kind == 9) = false) (h10 : (kind == 10) = false) :
    Calls Try.prog 10 #[.int .i64 kind, stV mode 0 0 0, .int .i32 u] w fun en w' => en = .returned (putV 0 (strOfNums ((un low 2 (55296 + (u - 65536) / 1024) ++ un low 2 (56320 + (u - 65536) % 1024)))) mode) ∧ Below w.heap.size w w' := by
  have hs0 : 0 ≤ u ∧ u ≤ 1114111 := ⟨hs.1, hs.2.1⟩
  have HSP := Lib.hid (fun W => rsplitC (u := u) W h6 hs0.2)
  obtain ⟨x, hx⟩ : ∃ x, x = 55296 + (u - 65536) / 1024 := ⟨_, rfl⟩
  obtain ⟨y, hy⟩ : ∃ y, y = 56320 + (u - 65536) % 1024 := ⟨_, rfl⟩
  rw [← hx, ← hy] at HSP ⊢
  have hxb : 0 ≤ x ∧ x < 65536 := by omega
  have hyb : 0 ≤ y ∧ y < 65536 := by omega
  clear hx hy
  have HU1 : Hid (∀ W, Calls Try.prog 24 #[.int .u32 x, .int .i64 2, .bool low] W fun e w' => e = .returned (.string (strOfNums (un low 2 x))) ∧ Below W.heap.size W w') := Lib.hid (fun W => runitC low W (by omega) (by omega) (by decide))
  have hz1 : (strOfNums (un low 2 x)).size ≤ 4 := by rw [str_size]; have := un_len low (show (2 : Int) = 2 ∨ (2 : Int) = 4 by decide) x; omega
  obtain ⟨S1, hS1⟩ : ∃ S, S = strOfNums (un low 2 x) := ⟨_, rfl⟩
  rw [← hS1] at hz1
  have HS1 := Lib.hid hS1
  have HU2 : Hid (∀ W, Calls Try.prog 24 #[.int .u32 y, .int .i64 2, .bool low] W fun e w' => e = .returned (.string (strOfNums (un low 2 y))) ∧ Below W.heap.size W w') := Lib.hid (fun W => runitC low W (by omega) (by omega) (by decide))
  have hz2 : (strOfNums (un low 2 y)).size ≤ 4 := by rw [str_size]; have := un_len low (show (2 : Int) = 2 ∨ (2 : Int) = 4 by decide) y; omega
  obtain ⟨S2, hS2⟩ : ∃ S, S = strOfNums (un low 2 y) := ⟨_, rfl⟩
  rw [← hS2] at hz2
  have HS2 := Lib.hid hS2
  have hwx : IntKind.u32.wrap x = x := by rw [IntKind.wrap_u32]; omega
  have hwy : IntKind.u32.wrap y = y := by rw [IntKind.wrap_u32]; omega
  have HR : Hid (strOfNums ((un low 2 x ++ un low 2 y)) = (⟨#[]⟩ : ByteArray) ++ S1 ++ S2) := Lib.hid (by rw [hS1, hS2, show (⟨#[]⟩ : ByteArray) = strOfNums [] from rfl, str_app, str_app, List.nil_append])
  clear hS1 hS2
  have k2 : ¬ 9223372036854775807 < S1.size + S2.size := by omega
  have k0 : ¬ 9223372036854775807 < S1.size := by omega
  have hu : 65535 < u := by omega
  have HS : Hid (decide (Scal u) = true) := Lib.hid (decide_eq_true hs)
  clear hs
  have hmm : marks = false ∨ (marks = true ∧ (mode == 0) = false) := by cases marks; exact .inl rfl; exact .inr ⟨rfl, beq_eq_false_iff_ne.2 fun h0 => hm ⟨rfl, h0⟩⟩
  clear hm
  rcases hmm with rfl | ⟨rfl, hmm⟩
  · skip
    have HFI : Hid (∀ W, Calls Try.prog 21 #[.int .i64 kind, .agg #[.int .i64 mode, .int .i64 0, .int .u32 0, .int .i32 0]] W fun e w' => e = .returned (.bool (decide (Fit false mode 0 0 0))) ∧ Below W.heap.size W w') := Lib.hid (fun W => rfitsC 0 0 0 W hk)
    unfold stV
    have HK := Lib.hid hk
    have HF := Lib.hid hf
    clear hk hf
    go_enter Try.func10, Try.ntmps10
    go_wp2_with fail
    refine (rhasC _ HK.out).mono ?_
    rintro e w1 ⟨rfl, hd⟩
    have hb := hd.below
    have ST1 : Hid ((w1).heap[w.heap.size]? = some (.cells #[.int .i64 mode, .int .i64 0, .int .u32 0, .int .i32 0] 24 (0, 0))) := Lib.hid (blk_below (blk_alloc (heap_alloc_new _ _) _) hb)
    have RK1 : Hid ((w1).heap[w.heap.size + 1]? = some (.cells #[.int .i64 0, .string ⟨#[]⟩, .int .i64 0, .int .i64 0, .int .u32 0, .int .i32 0] 27 (0, 0))) := Lib.hid (blk_below (blk_second _ _ _) hb)
    have HB1 : Hid (Below w.heap.size w (w1)) := Lib.hid (on (below_alloc (below_alloc (Below.refl _ _) _) _) hb)
    clear hb hd
    have hz1 : w.heap.size + 1 < w1.heap.size := blk_lt RK1.out
    have hy1 : w.heap.size < w1.heap.size := by omega
    have e0 := blk_cell ST1.out 0
    have e1 := blk_cell ST1.out 1
    have e2 := blk_cell ST1.out 2
    have e3 := blk_cell ST1.out 3
    go_wp2_with fail
    refine (HFI.out _).mono ?_
    rintro e w2 ⟨rfl, hb⟩
    have ST2 : Hid ((w2).heap[w.heap.size]? = some (.cells #[.int .i64 mode, .int .i64 0, .int .u32 0, .int .i32 0] 24 (0, 0))) := Lib.hid (blk_below ST1.out hb)
    have RK2 : Hid ((w2).heap[w.heap.size + 1]? = some (.cells #[.int .i64 0, .string ⟨#[]⟩, .int .i64 0, .int .i64 0, .int .u32 0, .int .i32 0] 27 (0, 0))) := Lib.hid (blk_below RK1.out hb)
    have HB2 : Hid (Below w.heap.size w (w2)) := Lib.hid (on HB1.out hb)
    clear hb ST1 RK1 HB1
    have hz2 : w.heap.size + 1 < w2.heap.size := blk_lt RK2.out
    have hy2 : w.heap.size < w2.heap.size := by omega
    rw [decide_eq_true HF.out]
    clear e0 e1 e2 e3
    go_wp2_with fail
    refine (rscalarC u _).mono ?_
    rintro e w3 ⟨rfl, hd⟩
    have hb := hd.below
    have ST3 : Hid ((w3).heap[w.heap.size]? = some (.cells #[.int .i64 mode, .int .i64 0, .int .u32 0, .int .i32 0] 24 (0, 0))) := Lib.hid (blk_below ST2.out hb)
    have RK3 : Hid ((w3).heap[w.heap.size + 1]? = some (.cells #[.int .i64 0, .string ⟨#[]⟩, .int .i64 0, .int .i64 0, .int .u32 0, .int .i32 0] 27 (0, 0))) := Lib.hid (blk_below RK2.out hb)
    have HB3 : Hid (Below w.heap.size w (w3)) := Lib.hid (on HB2.out hb)
    clear hb hd ST2 RK2 HB2
    have hz3 : w.heap.size + 1 < w3.heap.size := blk_lt RK3.out
    have hy3 : w.heap.size < w3.heap.size := by omega
    rw [HS.out]
    go_wp2_with fail
    refine (rsizeC _ HK.out).mono ?_
    rintro e w4 ⟨rfl, hd⟩
    have hb := hd.below
    have ST4 : Hid ((w4).heap[w.heap.size]? = some (.cells #[.int .i64 mode, .int .i64 0, .int .u32 0, .int .i32 0] 24 (0, 0))) := Lib.hid (blk_below ST3.out hb)
    have RK4 : Hid ((w4).heap[w.heap.size + 1]? = some (.cells #[.int .i64 0, .string ⟨#[]⟩, .int .i64 0, .int .i64 0, .int .u32 0, .int .i32 0] 27 (0, 0))) := Lib.hid (blk_below RK3.out hb)
    have HB4 : Hid (Below w.heap.size w (w4)) := Lib.hid (on HB3.out hb)
    clear hb hd ST3 RK3 HB3
    have hz4 : w.heap.size + 1 < w4.heap.size := blk_lt RK4.out
    have hy4 : w.heap.size < w4.heap.size := by omega
    have e0 := blk_cell ST4.out 0
    have e1 := blk_cell ST4.out 1
    have e2 := blk_cell ST4.out 2
    have e3 := blk_cell ST4.out 3
    go_wp2_with fail
    refine (rmarkedC _ HK.out).mono ?_
    rintro e w5 ⟨rfl, hd⟩
    have hb := hd.below
    have ST5 : Hid ((w5).heap[w.heap.size]? = some (.cells #[.int .i64 mode, .int .i64 0, .int .u32 0, .int .i32 0] 24 (0, 0))) := Lib.hid (blk_below ST4.out hb)
    have RK5 : Hid ((w5).heap[w.heap.size + 1]? = some (.cells #[.int .i64 0, .string ⟨#[]⟩, .int .i64 0, .int .i64 0, .int .u32 0, .int .i32 0] 27 (0, 0))) := Lib.hid (blk_below RK4.out hb)
    have HB5 : Hid (Below w.heap.size w (w5)) := Lib.hid (on HB4.out hb)
    clear hb hd ST4 RK4 HB4
    have hz5 : w.heap.size + 1 < w5.heap.size := blk_lt RK5.out
    have hy5 : w.heap.size < w5.heap.size := by omega
    clear e0 e1 e2 e3
    have e0 := blk_cell ST5.out 0
    have e1 := blk_cell ST5.out 1
    have e2 := blk_cell ST5.out 2
    have e3 := blk_cell ST5.out 3
    go_wp2_with fail
    refine (rlittleC _ HK.out).mono ?_
    rintro e w7 ⟨rfl, hd⟩
    have hb := hd.below
    have ST6 : Hid ((w7).heap[w.heap.size]? = some (.cells #[.int .i64 mode, .int .i64 0, .int .u32 0, .int .i32 0] 24 (0, 0))) := Lib.hid (blk_below ST5.out hb)
    have RK6 : Hid ((w7).heap[w.heap.size + 1]? = some (.cells #[.int .i64 0, .string ⟨#[]⟩, .int .i64 0, .int .i64 0, .int .u32 0, .int .i32 0] 27 (0, 0))) := Lib.hid (blk_below RK5.out hb)
    have HB6 : Hid (Below w.heap.size w (w7)) := Lib.hid (on HB5.out hb)
    clear hb hd ST5 RK5 HB5
    have hz6 : w.heap.size + 1 < w7.heap.size := blk_lt RK6.out
    have hy6 : w.heap.size < w7.heap.size := by omega
    clear e0 e1 e2 e3
    go_wp2_with fail
    refine (HSP.out _).mono ?_
    rintro e w8 ⟨rfl, hd⟩
    have hb := hd.below
    have ST7 : Hid ((w8).heap[w.heap.size]? = some (.cells #[.int .i64 mode, .int .i64 0, .int .u32 0, .int .i32 0] 24 (0, 0))) := Lib.hid (blk_below ST6.out hb)
    have RK7 : Hid ((w8).heap[w.heap.size + 1]? = some (.cells #[.int .i64 0, .string ⟨#[]⟩, .int .i64 0, .int .i64 0, .int .u32 0, .int .i32 0] 27 (0, 0))) := Lib.hid (blk_below RK6.out hb)
    have HB7 : Hid (Below w.heap.size w (w8)) := Lib.hid (on HB6.out hb)
    clear hb hd ST6 RK6 HB6
    have hz7 : w.heap.size + 1 < w8.heap.size := blk_lt RK7.out
    have hy7 : w.heap.size < w8.heap.size := by omega
    go_wp2_with fail
    have e0 := blk_cell ST7.out 0
    have e1 := blk_cell ST7.out 1
    have e2 := blk_cell ST7.out 2
    have e3 := blk_cell ST7.out 3
    have HX : Hid (Below w8.heap.size w8 w8.drew) := Lib.hid (below_drew (Below.refl _ _))
    have RZ : Hid (w8.drew.heap[w.heap.size + 1]? = some (.cells #[.int .i64 0, .string ⟨#[]⟩, .int .i64 0, .int .i64 0, .int .u32 0, .int .i32 0] 27 (0, 0))) := Lib.hid RK7.out
    have HZ : Hid (w8.heap.size ≤ w8.drew.heap.size) := Lib.hid (Nat.le_refl _)
    have hy9 : w.heap.size < w8.heap.size := by omega
    have r0 := blk_cell RZ.out 0
    have r1 := blk_cell RZ.out 1
    have r2 := blk_cell RZ.out 2
    have r3 := blk_cell RZ.out 3
    have r4 := blk_cell RZ.out 4
    have r5 := blk_cell RZ.out 5
    have q0 := blk_frozen RZ.out 0
    have q1 := blk_frozen RZ.out 1
    have q2 := blk_frozen RZ.out 2
    have q3 := blk_frozen RZ.out 3
    have q4 := blk_frozen RZ.out 4
    have q5 := blk_frozen RZ.out 5
    have d0 : w8.drew.cell? ⟨w.heap.size, 0, none⟩ = some (.int .i64 mode) := e0
    have d1 : w8.drew.cell? ⟨w.heap.size, 1, none⟩ = some (.int .i64 0) := e1
    have d2 : w8.drew.cell? ⟨w.heap.size, 2, none⟩ = some (.int .u32 0) := e2
    have d3 : w8.drew.cell? ⟨w.heap.size, 3, none⟩ = some (.int .i32 0) := e3
    clear e0 e1 e2 e3
    go_region_held3 (fun w' => w'.cell? ⟨w.heap.size, 0, none⟩ = some (.int .i64 mode) ∧ w'.cell? ⟨w.heap.size, 1, none⟩ = some (.int .i64 0) ∧ w'.cell? ⟨w.heap.size, 2, none⟩ = some (.int .u32 0) ∧ w'.cell? ⟨w.heap.size, 3, none⟩ = some (.int .i32 0)) (first | (with_reducible exact ⟨d0, d1, d2, d3⟩) | (with_reducible exact ⟨a0, a1, a2, a3⟩) | go_keep) (first | (go_at_call 24; (with_reducible refine (HU1.out _).mono ?_); rintro e wa ⟨rfl, hb⟩; rw [← HS1.out]; replace RZ := Lib.hid (blk_below RZ.out hb); clear r0 r1 r2 r3 r4 r5 q0 q1 q2 q3 q4 q5; have r0 := blk_cell RZ.out 0; have r1 := blk_cell RZ.out 1; have r2 := blk_cell RZ.out 2; have r3 := blk_cell RZ.out 3; have r4 := blk_cell RZ.out 4; have r5 := blk_cell RZ.out 5; have q0 := blk_frozen RZ.out 0; have q1 := blk_frozen RZ.out 1; have q2 := blk_frozen RZ.out 2; have q3 := blk_frozen RZ.out 3; have q4 := blk_frozen RZ.out 4; have q5 := blk_frozen RZ.out 5; have hsz := hb.size; replace HX := Lib.hid (below_on HX.out HZ.out hb); have hz := HZ.out; clear HZ; have HZ : Hid (w8.heap.size ≤ wa.heap.size) := Lib.hid (Nat.le_trans hz hsz); clear hb hz hsz; have a0 : wa.cell? ⟨w.heap.size, 0, none⟩ = some (.int .i64 mode) := (HX.out.cell (p := ⟨w.heap.size, 0, none⟩) hy9).trans d0; have a1 : wa.cell? ⟨w.heap.size, 1, none⟩ = some (.int .i64 0) := (HX.out.cell (p := ⟨w.heap.size, 1, none⟩) hy9).trans d1; have a2 : wa.cell? ⟨w.heap.size, 2, none⟩ = some (.int .u32 0) := (HX.out.cell (p := ⟨w.heap.size, 2, none⟩) hy9).trans d2; have a3 : wa.cell? ⟨w.heap.size, 3, none⟩ = some (.int .i32 0) := (HX.out.cell (p := ⟨w.heap.size, 3, none⟩) hy9).trans d3) | (go_at_call 24; (with_reducible refine (HU2.out _).mono ?_); rintro e wa ⟨rfl, hb⟩; rw [← HS2.out]; replace RZ := Lib.hid (blk_below RZ.out hb); clear r0 r1 r2 r3 r4 r5 q0 q1 q2 q3 q4 q5; have r0 := blk_cell RZ.out 0; have r1 := blk_cell RZ.out 1; have r2 := blk_cell RZ.out 2; have r3 := blk_cell RZ.out 3; have r4 := blk_cell RZ.out 4; have r5 := blk_cell RZ.out 5; have q0 := blk_frozen RZ.out 0; have q1 := blk_frozen RZ.out 1; have q2 := blk_frozen RZ.out 2; have q3 := blk_frozen RZ.out 3; have q4 := blk_frozen RZ.out 4; have q5 := blk_frozen RZ.out 5; have hsz := hb.size; replace HX := Lib.hid (below_on HX.out HZ.out hb); have hz := HZ.out; clear HZ; have HZ : Hid (w8.heap.size ≤ wa.heap.size) := Lib.hid (Nat.le_trans hz hsz); clear hb hz hsz; have a0 : wa.cell? ⟨w.heap.size, 0, none⟩ = some (.int .i64 mode) := (HX.out.cell (p := ⟨w.heap.size, 0, none⟩) hy9).trans d0; have a1 : wa.cell? ⟨w.heap.size, 1, none⟩ = some (.int .i64 0) := (HX.out.cell (p := ⟨w.heap.size, 1, none⟩) hy9).trans d1; have a2 : wa.cell? ⟨w.heap.size, 2, none⟩ = some (.int .u32 0) := (HX.out.cell (p := ⟨w.heap.size, 2, none⟩) hy9).trans d2; have a3 : wa.cell? ⟨w.heap.size, 3, none⟩ = some (.int .i32 0) := (HX.out.cell (p := ⟨w.heap.size, 3, none⟩) hy9).trans d3) | fail)
    all_goals
      have HBZ : Hid (Below w.heap.size w wa) := Lib.hid (HB7.out.trans (HX.out.mono (by omega)))
      go_wp2_with fail
      refine bodyPost_ret (results_cell_row rfl _ _ (w.heap.size + 1) 27 _ (0, 0) _ rfl (put6 RZ.out _ _ _ _ _ _) Try.underlying27 rfl (by kernel_rfl)) rfl ?_
      exact ⟨by rw [HR.out]; rfl, below6 HBZ.out (Nat.le_succ _) _ _ _ _ _ _⟩
  · skip
    have HFI : Hid (∀ W, Calls Try.prog 21 #[.int .i64 kind, .agg #[.int .i64 mode, .int .i64 0, .int .u32 0, .int .i32 0]] W fun e w' => e = .returned (.bool (decide (Fit true mode 0 0 0))) ∧ Below W.heap.size W w') := Lib.hid (fun W => rfitsC 0 0 0 W hk)
    unfold stV
    have HK := Lib.hid hk
    have HF := Lib.hid hf
    clear hk hf
    go_enter Try.func10, Try.ntmps10
    go_wp2_with fail
    refine (rhasC _ HK.out).mono ?_
    rintro e w1 ⟨rfl, hd⟩
    have hb := hd.below
    have ST1 : Hid ((w1).heap[w.heap.size]? = some (.cells #[.int .i64 mode, .int .i64 0, .int .u32 0, .int .i32 0] 24 (0, 0))) := Lib.hid (blk_below (blk_alloc (heap_alloc_new _ _) _) hb)
    have RK1 : Hid ((w1).heap[w.heap.size + 1]? = some (.cells #[.int .i64 0, .string ⟨#[]⟩, .int .i64 0, .int .i64 0, .int .u32 0, .int .i32 0] 27 (0, 0))) := Lib.hid (blk_below (blk_second _ _ _) hb)
    have HB1 : Hid (Below w.heap.size w (w1)) := Lib.hid (on (below_alloc (below_alloc (Below.refl _ _) _) _) hb)
    clear hb hd
    have hz1 : w.heap.size + 1 < w1.heap.size := blk_lt RK1.out
    have hy1 : w.heap.size < w1.heap.size := by omega
    have e0 := blk_cell ST1.out 0
    have e1 := blk_cell ST1.out 1
    have e2 := blk_cell ST1.out 2
    have e3 := blk_cell ST1.out 3
    go_wp2_with fail
    refine (HFI.out _).mono ?_
    rintro e w2 ⟨rfl, hb⟩
    have ST2 : Hid ((w2).heap[w.heap.size]? = some (.cells #[.int .i64 mode, .int .i64 0, .int .u32 0, .int .i32 0] 24 (0, 0))) := Lib.hid (blk_below ST1.out hb)
    have RK2 : Hid ((w2).heap[w.heap.size + 1]? = some (.cells #[.int .i64 0, .string ⟨#[]⟩, .int .i64 0, .int .i64 0, .int .u32 0, .int .i32 0] 27 (0, 0))) := Lib.hid (blk_below RK1.out hb)
    have HB2 : Hid (Below w.heap.size w (w2)) := Lib.hid (on HB1.out hb)
    clear hb ST1 RK1 HB1
    have hz2 : w.heap.size + 1 < w2.heap.size := blk_lt RK2.out
    have hy2 : w.heap.size < w2.heap.size := by omega
    rw [decide_eq_true HF.out]
    clear e0 e1 e2 e3
    go_wp2_with fail
    refine (rscalarC u _).mono ?_
    rintro e w3 ⟨rfl, hd⟩
    have hb := hd.below
    have ST3 : Hid ((w3).heap[w.heap.size]? = some (.cells #[.int .i64 mode, .int .i64 0, .int .u32 0, .int .i32 0] 24 (0, 0))) := Lib.hid (blk_below ST2.out hb)
    have RK3 : Hid ((w3).heap[w.heap.size + 1]? = some (.cells #[.int .i64 0, .string ⟨#[]⟩, .int .i64 0, .int .i64 0, .int .u32 0, .int .i32 0] 27 (0, 0))) := Lib.hid (blk_below RK2.out hb)
    have HB3 : Hid (Below w.heap.size w (w3)) := Lib.hid (on HB2.out hb)
    clear hb hd ST2 RK2 HB2
    have hz3 : w.heap.size + 1 < w3.heap.size := blk_lt RK3.out
    have hy3 : w.heap.size < w3.heap.size := by omega
    rw [HS.out]
    go_wp2_with fail
    refine (rsizeC _ HK.out).mono ?_
    rintro e w4 ⟨rfl, hd⟩
    have hb := hd.below
    have ST4 : Hid ((w4).heap[w.heap.size]? = some (.cells #[.int .i64 mode, .int .i64 0, .int .u32 0, .int .i32 0] 24 (0, 0))) := Lib.hid (blk_below ST3.out hb)
    have RK4 : Hid ((w4).heap[w.heap.size + 1]? = some (.cells #[.int .i64 0, .string ⟨#[]⟩, .int .i64 0, .int .i64 0, .int .u32 0, .int .i32 0] 27 (0, 0))) := Lib.hid (blk_below RK3.out hb)
    have HB4 : Hid (Below w.heap.size w (w4)) := Lib.hid (on HB3.out hb)
    clear hb hd ST3 RK3 HB3
    have hz4 : w.heap.size + 1 < w4.heap.size := blk_lt RK4.out
    have hy4 : w.heap.size < w4.heap.size := by omega
    have e0 := blk_cell ST4.out 0
    have e1 := blk_cell ST4.out 1
    have e2 := blk_cell ST4.out 2
    have e3 := blk_cell ST4.out 3
    go_wp2_with fail
    refine (rmarkedC _ HK.out).mono ?_
    rintro e w5 ⟨rfl, hd⟩
    have hb := hd.below
    have ST5 : Hid ((w5).heap[w.heap.size]? = some (.cells #[.int .i64 mode, .int .i64 0, .int .u32 0, .int .i32 0] 24 (0, 0))) := Lib.hid (blk_below ST4.out hb)
    have RK5 : Hid ((w5).heap[w.heap.size + 1]? = some (.cells #[.int .i64 0, .string ⟨#[]⟩, .int .i64 0, .int .i64 0, .int .u32 0, .int .i32 0] 27 (0, 0))) := Lib.hid (blk_below RK4.out hb)
    have HB5 : Hid (Below w.heap.size w (w5)) := Lib.hid (on HB4.out hb)
    clear hb hd ST4 RK4 HB4
    have hz5 : w.heap.size + 1 < w5.heap.size := blk_lt RK5.out
    have hy5 : w.heap.size < w5.heap.size := by omega
    clear e0 e1 e2 e3
    have e0 := blk_cell ST5.out 0
    have e1 := blk_cell ST5.out 1
    have e2 := blk_cell ST5.out 2
    have e3 := blk_cell ST5.out 3
    go_wp2_with fail
    refine (rlittleC _ HK.out).mono ?_
    rintro e w7 ⟨rfl, hd⟩
    have hb := hd.below
    have ST6 : Hid ((w7).heap[w.heap.size]? = some (.cells #[.int .i64 mode, .int .i64 0, .int .u32 0, .int .i32 0] 24 (0, 0))) := Lib.hid (blk_below ST5.out hb)
    have RK6 : Hid ((w7).heap[w.heap.size + 1]? = some (.cells #[.int .i64 0, .string ⟨#[]⟩, .int .i64 0, .int .i64 0, .int .u32 0, .int .i32 0] 27 (0, 0))) := Lib.hid (blk_below RK5.out hb)
    have HB6 : Hid (Below w.heap.size w (w7)) := Lib.hid (on HB5.out hb)
    clear hb hd ST5 RK5 HB5
    have hz6 : w.heap.size + 1 < w7.heap.size := blk_lt RK6.out
    have hy6 : w.heap.size < w7.heap.size := by omega
    clear e0 e1 e2 e3
    go_wp2_with fail
    refine (HSP.out _).mono ?_
    rintro e w8 ⟨rfl, hd⟩
    have hb := hd.below
    have ST7 : Hid ((w8).heap[w.heap.size]? = some (.cells #[.int .i64 mode, .int .i64 0, .int .u32 0, .int .i32 0] 24 (0, 0))) := Lib.hid (blk_below ST6.out hb)
    have RK7 : Hid ((w8).heap[w.heap.size + 1]? = some (.cells #[.int .i64 0, .string ⟨#[]⟩, .int .i64 0, .int .i64 0, .int .u32 0, .int .i32 0] 27 (0, 0))) := Lib.hid (blk_below RK6.out hb)
    have HB7 : Hid (Below w.heap.size w (w8)) := Lib.hid (on HB6.out hb)
    clear hb hd ST6 RK6 HB6
    have hz7 : w.heap.size + 1 < w8.heap.size := blk_lt RK7.out
    have hy7 : w.heap.size < w8.heap.size := by omega
    go_wp2_with fail
    have e0 := blk_cell ST7.out 0
    have e1 := blk_cell ST7.out 1
    have e2 := blk_cell ST7.out 2
    have e3 := blk_cell ST7.out 3
    have HX : Hid (Below w8.heap.size w8 w8.drew) := Lib.hid (below_drew (Below.refl _ _))
    have RZ : Hid (w8.drew.heap[w.heap.size + 1]? = some (.cells #[.int .i64 0, .string ⟨#[]⟩, .int .i64 0, .int .i64 0, .int .u32 0, .int .i32 0] 27 (0, 0))) := Lib.hid RK7.out
    have HZ : Hid (w8.heap.size ≤ w8.drew.heap.size) := Lib.hid (Nat.le_refl _)
    have hy9 : w.heap.size < w8.heap.size := by omega
    have r0 := blk_cell RZ.out 0
    have r1 := blk_cell RZ.out 1
    have r2 := blk_cell RZ.out 2
    have r3 := blk_cell RZ.out 3
    have r4 := blk_cell RZ.out 4
    have r5 := blk_cell RZ.out 5
    have q0 := blk_frozen RZ.out 0
    have q1 := blk_frozen RZ.out 1
    have q2 := blk_frozen RZ.out 2
    have q3 := blk_frozen RZ.out 3
    have q4 := blk_frozen RZ.out 4
    have q5 := blk_frozen RZ.out 5
    have d0 : w8.drew.cell? ⟨w.heap.size, 0, none⟩ = some (.int .i64 mode) := e0
    have d1 : w8.drew.cell? ⟨w.heap.size, 1, none⟩ = some (.int .i64 0) := e1
    have d2 : w8.drew.cell? ⟨w.heap.size, 2, none⟩ = some (.int .u32 0) := e2
    have d3 : w8.drew.cell? ⟨w.heap.size, 3, none⟩ = some (.int .i32 0) := e3
    clear e0 e1 e2 e3
    go_region_held3 (fun w' => w'.cell? ⟨w.heap.size, 0, none⟩ = some (.int .i64 mode) ∧ w'.cell? ⟨w.heap.size, 1, none⟩ = some (.int .i64 0) ∧ w'.cell? ⟨w.heap.size, 2, none⟩ = some (.int .u32 0) ∧ w'.cell? ⟨w.heap.size, 3, none⟩ = some (.int .i32 0)) (first | (with_reducible exact ⟨d0, d1, d2, d3⟩) | (with_reducible exact ⟨a0, a1, a2, a3⟩) | go_keep) (first | (go_at_call 24; (with_reducible refine (HU1.out _).mono ?_); rintro e wa ⟨rfl, hb⟩; rw [← HS1.out]; replace RZ := Lib.hid (blk_below RZ.out hb); clear r0 r1 r2 r3 r4 r5 q0 q1 q2 q3 q4 q5; have r0 := blk_cell RZ.out 0; have r1 := blk_cell RZ.out 1; have r2 := blk_cell RZ.out 2; have r3 := blk_cell RZ.out 3; have r4 := blk_cell RZ.out 4; have r5 := blk_cell RZ.out 5; have q0 := blk_frozen RZ.out 0; have q1 := blk_frozen RZ.out 1; have q2 := blk_frozen RZ.out 2; have q3 := blk_frozen RZ.out 3; have q4 := blk_frozen RZ.out 4; have q5 := blk_frozen RZ.out 5; have hsz := hb.size; replace HX := Lib.hid (below_on HX.out HZ.out hb); have hz := HZ.out; clear HZ; have HZ : Hid (w8.heap.size ≤ wa.heap.size) := Lib.hid (Nat.le_trans hz hsz); clear hb hz hsz; have a0 : wa.cell? ⟨w.heap.size, 0, none⟩ = some (.int .i64 mode) := (HX.out.cell (p := ⟨w.heap.size, 0, none⟩) hy9).trans d0; have a1 : wa.cell? ⟨w.heap.size, 1, none⟩ = some (.int .i64 0) := (HX.out.cell (p := ⟨w.heap.size, 1, none⟩) hy9).trans d1; have a2 : wa.cell? ⟨w.heap.size, 2, none⟩ = some (.int .u32 0) := (HX.out.cell (p := ⟨w.heap.size, 2, none⟩) hy9).trans d2; have a3 : wa.cell? ⟨w.heap.size, 3, none⟩ = some (.int .i32 0) := (HX.out.cell (p := ⟨w.heap.size, 3, none⟩) hy9).trans d3) | (go_at_call 24; (with_reducible refine (HU2.out _).mono ?_); rintro e wa ⟨rfl, hb⟩; rw [← HS2.out]; replace RZ := Lib.hid (blk_below RZ.out hb); clear r0 r1 r2 r3 r4 r5 q0 q1 q2 q3 q4 q5; have r0 := blk_cell RZ.out 0; have r1 := blk_cell RZ.out 1; have r2 := blk_cell RZ.out 2; have r3 := blk_cell RZ.out 3; have r4 := blk_cell RZ.out 4; have r5 := blk_cell RZ.out 5; have q0 := blk_frozen RZ.out 0; have q1 := blk_frozen RZ.out 1; have q2 := blk_frozen RZ.out 2; have q3 := blk_frozen RZ.out 3; have q4 := blk_frozen RZ.out 4; have q5 := blk_frozen RZ.out 5; have hsz := hb.size; replace HX := Lib.hid (below_on HX.out HZ.out hb); have hz := HZ.out; clear HZ; have HZ : Hid (w8.heap.size ≤ wa.heap.size) := Lib.hid (Nat.le_trans hz hsz); clear hb hz hsz; have a0 : wa.cell? ⟨w.heap.size, 0, none⟩ = some (.int .i64 mode) := (HX.out.cell (p := ⟨w.heap.size, 0, none⟩) hy9).trans d0; have a1 : wa.cell? ⟨w.heap.size, 1, none⟩ = some (.int .i64 0) := (HX.out.cell (p := ⟨w.heap.size, 1, none⟩) hy9).trans d1; have a2 : wa.cell? ⟨w.heap.size, 2, none⟩ = some (.int .u32 0) := (HX.out.cell (p := ⟨w.heap.size, 2, none⟩) hy9).trans d2; have a3 : wa.cell? ⟨w.heap.size, 3, none⟩ = some (.int .i32 0) := (HX.out.cell (p := ⟨w.heap.size, 3, none⟩) hy9).trans d3) | fail)
    all_goals
      have HBZ : Hid (Below w.heap.size w wa) := Lib.hid (HB7.out.trans (HX.out.mono (by omega)))
      go_wp2_with fail
      refine bodyPost_ret (results_cell_row rfl _ _ (w.heap.size + 1) 27 _ (0, 0) _ rfl (put6 RZ.out _ _ _ _ _ _) Try.underlying27 rfl (by kernel_rfl)) rfl ?_
      exact ⟨by rw [HR.out]; rfl, below6 HBZ.out (Nat.le_succ _) _ _ _ _ _ _⟩
set_option maxHeartbeats 4000000 in
set_option maxRecDepth 100000 in
theorem rset_mOne2 (kind u : Int) (low : Bool) (w : World) (hk : shp kind 0 = some (2, true, true, low)) (hs : Scal u) (h6 : u < 65536) :
    Calls Try.prog 10 #[.int .i64 kind, stV 0 0 0 0, .int .i32 u] w fun en w' => en = .returned (putV 0 (strOfNums (un false 2 65279 ++ un low 2 u)) 1) ∧ Below w.heap.size w w' := by
  have hf : Fit true 0 0 0 0 := ⟨rfl, rfl, rfl, .inl rfl⟩
  have hs0 : 0 ≤ u ∧ u ≤ 1114111 := ⟨hs.1, hs.2.1⟩
  have HSP := Lib.hid (fun W => rsplitC_no (u := u) W h6)
  have HU0 : Hid (∀ W, Calls Try.prog 24 #[.int .u32 65279, .int .i64 2, .bool false] W fun e w' => e = .returned (.string (strOfNums (un false 2 65279))) ∧ Below W.heap.size W w') := Lib.hid (fun W => runitC false W (by omega) (by omega) (by decide))
  have hz0 : (strOfNums (un false 2 65279)).size ≤ 4 := by rw [str_size]; have := un_len false (show (2 : Int) = 2 ∨ (2 : Int) = 4 by decide) 65279; omega
  obtain ⟨S0, hS0⟩ : ∃ S, S = strOfNums (un false 2 65279) := ⟨_, rfl⟩
  rw [← hS0] at hz0
  have HS0 := Lib.hid hS0
  have HU1 : Hid (∀ W, Calls Try.prog 24 #[.int .u32 u, .int .i64 2, .bool low] W fun e w' => e = .returned (.string (strOfNums (un low 2 u))) ∧ Below W.heap.size W w') := Lib.hid (fun W => runitC low W (by omega) (by omega) (by decide))
  have hz1 : (strOfNums (un low 2 u)).size ≤ 4 := by rw [str_size]; have := un_len low (show (2 : Int) = 2 ∨ (2 : Int) = 4 by decide) u; omega
  obtain ⟨S1, hS1⟩ : ∃ S, S = strOfNums (un low 2 u) := ⟨_, rfl⟩
  rw [← hS1] at hz1
  have HS1 := Lib.hid hS1
  have hwx : IntKind.u32.wrap u = u := by rw [IntKind.wrap_u32]; omega
  have HR : Hid (strOfNums (un false 2 65279 ++ un low 2 u) = S0 ++ S1) := Lib.hid (by rw [hS0, hS1, str_app])
  clear hS0 hS1
  have k1 : ¬ 9223372036854775807 < S0.size + S1.size := by omega
  have k0 : ¬ 9223372036854775807 < S1.size := by omega
  have hu' : ¬ 65535 < u := by omega
  have HS : Hid (decide (Scal u) = true) := Lib.hid (decide_eq_true hs)
  clear hs
  have HFI : Hid (∀ W, Calls Try.prog 21 #[.int .i64 kind, .agg #[.int .i64 0, .int .i64 0, .int .u32 0, .int .i32 0]] W fun e w' => e = .returned (.bool (decide (Fit true 0 0 0 0))) ∧ Below W.heap.size W w') := Lib.hid (fun W => rfitsC 0 0 0 W hk)
  unfold stV
  have HK := Lib.hid hk
  have HF := Lib.hid hf
  clear hk hf
  go_enter Try.func10, Try.ntmps10
  go_wp2_with fail
  refine (rhasC _ HK.out).mono ?_
  rintro e w1 ⟨rfl, hd⟩
  have hb := hd.below
  have ST1 : Hid ((w1).heap[w.heap.size]? = some (.cells #[.int .i64 0, .int .i64 0, .int .u32 0, .int .i32 0] 24 (0, 0))) := Lib.hid (blk_below (blk_alloc (heap_alloc_new _ _) _) hb)
  have RK1 : Hid ((w1).heap[w.heap.size + 1]? = some (.cells #[.int .i64 0, .string ⟨#[]⟩, .int .i64 0, .int .i64 0, .int .u32 0, .int .i32 0] 27 (0, 0))) := Lib.hid (blk_below (blk_second _ _ _) hb)
  have HB1 : Hid (Below w.heap.size w (w1)) := Lib.hid (on (below_alloc (below_alloc (Below.refl _ _) _) _) hb)
  clear hb hd
  have hz1 : w.heap.size + 1 < w1.heap.size := blk_lt RK1.out
  have hy1 : w.heap.size < w1.heap.size := by omega
  have e0 := blk_cell ST1.out 0
  have e1 := blk_cell ST1.out 1
  have e2 := blk_cell ST1.out 2
  have e3 := blk_cell ST1.out 3
  go_wp2_with fail
  refine (HFI.out _).mono ?_
  rintro e w2 ⟨rfl, hb⟩
  have ST2 : Hid ((w2).heap[w.heap.size]? = some (.cells #[.int .i64 0, .int .i64 0, .int .u32 0, .int .i32 0] 24 (0, 0))) := Lib.hid (blk_below ST1.out hb)
  have RK2 : Hid ((w2).heap[w.heap.size + 1]? = some (.cells #[.int .i64 0, .string ⟨#[]⟩, .int .i64 0, .int .i64 0, .int .u32 0, .int .i32 0] 27 (0, 0))) := Lib.hid (blk_below RK1.out hb)
  have HB2 : Hid (Below w.heap.size w (w2)) := Lib.hid (on HB1.out hb)
  clear hb ST1 RK1 HB1
  have hz2 : w.heap.size + 1 < w2.heap.size := blk_lt RK2.out
  have hy2 : w.heap.size < w2.heap.size := by omega
  rw [decide_eq_true HF.out]
  clear e0 e1 e2 e3
  go_wp2_with fail
  refine (rscalarC u _).mono ?_
  rintro e w3 ⟨rfl, hd⟩
  have hb := hd.below
  have ST3 : Hid ((w3).heap[w.heap.size]? = some (.cells #[.int .i64 0, .int .i64 0, .int .u32 0, .int .i32 0] 24 (0, 0))) := Lib.hid (blk_below ST2.out hb)
  have RK3 : Hid ((w3).heap[w.heap.size + 1]? = some (.cells #[.int .i64 0, .string ⟨#[]⟩, .int .i64 0, .int .i64 0, .int .u32 0, .int .i32 0] 27 (0, 0))) := Lib.hid (blk_below RK2.out hb)
  have HB3 : Hid (Below w.heap.size w (w3)) := Lib.hid (on HB2.out hb)
  clear hb hd ST2 RK2 HB2
  have hz3 : w.heap.size + 1 < w3.heap.size := blk_lt RK3.out
  have hy3 : w.heap.size < w3.heap.size := by omega
  rw [HS.out]
  go_wp2_with fail
  refine (rsizeC _ HK.out).mono ?_
  rintro e w4 ⟨rfl, hd⟩
  have hb := hd.below
  have ST4 : Hid ((w4).heap[w.heap.size]? = some (.cells #[.int .i64 0, .int .i64 0, .int .u32 0, .int .i32 0] 24 (0, 0))) := Lib.hid (blk_below ST3.out hb)
  have RK4 : Hid ((w4).heap[w.heap.size + 1]? = some (.cells #[.int .i64 0, .string ⟨#[]⟩, .int .i64 0, .int .i64 0, .int .u32 0, .int .i32 0] 27 (0, 0))) := Lib.hid (blk_below RK3.out hb)
  have HB4 : Hid (Below w.heap.size w (w4)) := Lib.hid (on HB3.out hb)
  clear hb hd ST3 RK3 HB3
  have hz4 : w.heap.size + 1 < w4.heap.size := blk_lt RK4.out
  have hy4 : w.heap.size < w4.heap.size := by omega
  have e0 := blk_cell ST4.out 0
  have e1 := blk_cell ST4.out 1
  have e2 := blk_cell ST4.out 2
  have e3 := blk_cell ST4.out 3
  go_wp2_with fail
  refine (rmarkedC _ HK.out).mono ?_
  rintro e w5 ⟨rfl, hd⟩
  have hb := hd.below
  have ST5 : Hid ((w5).heap[w.heap.size]? = some (.cells #[.int .i64 0, .int .i64 0, .int .u32 0, .int .i32 0] 24 (0, 0))) := Lib.hid (blk_below ST4.out hb)
  have RK5 : Hid ((w5).heap[w.heap.size + 1]? = some (.cells #[.int .i64 0, .string ⟨#[]⟩, .int .i64 0, .int .i64 0, .int .u32 0, .int .i32 0] 27 (0, 0))) := Lib.hid (blk_below RK4.out hb)
  have HB5 : Hid (Below w.heap.size w (w5)) := Lib.hid (on HB4.out hb)
  clear hb hd ST4 RK4 HB4
  have hz5 : w.heap.size + 1 < w5.heap.size := blk_lt RK5.out
  have hy5 : w.heap.size < w5.heap.size := by omega
  clear e0 e1 e2 e3
  have e0 := blk_cell ST5.out 0
  have e1 := blk_cell ST5.out 1
  have e2 := blk_cell ST5.out 2
  have e3 := blk_cell ST5.out 3
  have f0 := blk_frozen ST5.out 0
  go_wp2_with fail
  refine (HU0.out _).mono ?_
  rintro e w6 ⟨rfl, hb⟩
  rw [← HS0.out]
  clear e0 e1 e2 e3
  clear f0
  have ST6 : Hid ((w6).heap[w.heap.size]? = some (.cells #[.int .i64 0, .int .i64 0, .int .u32 0, .int .i32 0] 24 (0, 0))) := Lib.hid (blk_below ST5.out hb)
  have RK6 : Hid ((w6).heap[w.heap.size + 1]? = some (.cells #[.int .i64 0, .string ⟨#[]⟩, .int .i64 0, .int .i64 0, .int .u32 0, .int .i32 0] 27 (0, 0))) := Lib.hid (blk_below RK5.out hb)
  have HB6 : Hid (Below w.heap.size w (w6)) := Lib.hid (on HB5.out hb)
  clear hb ST5 RK5 HB5
  have hz6 : w.heap.size + 1 < w6.heap.size := blk_lt RK6.out
  have hy6 : w.heap.size < w6.heap.size := by omega
  have e0 := blk_cell ST6.out 0
  have e1 := blk_cell ST6.out 1
  have e2 := blk_cell ST6.out 2
  have e3 := blk_cell ST6.out 3
  have f0 := blk_frozen ST6.out 0
  go_wp2_with fail
  refine (rlittle1C _ HK.out).mono ?_
  rintro e w7 ⟨rfl, hd⟩
  have hb := hd.below
  clear e0 e1 e2 e3
  clear f0
  have ST7 : Hid ((w7).heap[w.heap.size]? = some (.cells #[.int .i64 1, .int .i64 0, .int .u32 0, .int .i32 0] 24 (0, 0))) := Lib.hid (blk_below (put4 ST6.out _) hb)
  have RK7 : Hid ((w7).heap[w.heap.size + 1]? = some (.cells #[.int .i64 0, .string ⟨#[]⟩, .int .i64 0, .int .i64 0, .int .u32 0, .int .i32 0] 27 (0, 0))) := Lib.hid (blk_below (blk_far RK6.out (show w.heap.size + 1 ≠ w.heap.size by omega) _) hb)
  have HB7 : Hid (Below w.heap.size w (w7)) := Lib.hid (on (HB6.out.setCell (Nat.le_refl _) _) hb)
  clear hb hd ST6 RK6 HB6
  have hz7 : w.heap.size + 1 < w7.heap.size := blk_lt RK7.out
  have hy7 : w.heap.size < w7.heap.size := by omega
  go_wp2_with fail
  refine (HSP.out _).mono ?_
  rintro e w8 ⟨rfl, hd⟩
  have hb := hd.below
  have ST8 : Hid ((w8).heap[w.heap.size]? = some (.cells #[.int .i64 1, .int .i64 0, .int .u32 0, .int .i32 0] 24 (0, 0))) := Lib.hid (blk_below ST7.out hb)
  have RK8 : Hid ((w8).heap[w.heap.size + 1]? = some (.cells #[.int .i64 0, .string ⟨#[]⟩, .int .i64 0, .int .i64 0, .int .u32 0, .int .i32 0] 27 (0, 0))) := Lib.hid (blk_below RK7.out hb)
  have HB8 : Hid (Below w.heap.size w (w8)) := Lib.hid (on HB7.out hb)
  clear hb hd ST7 RK7 HB7
  have hz8 : w.heap.size + 1 < w8.heap.size := blk_lt RK8.out
  have hy8 : w.heap.size < w8.heap.size := by omega
  go_wp2_with fail
  have e0 := blk_cell ST8.out 0
  have e1 := blk_cell ST8.out 1
  have e2 := blk_cell ST8.out 2
  have e3 := blk_cell ST8.out 3
  have HX : Hid (Below w8.heap.size w8 w8.drew) := Lib.hid (below_drew (Below.refl _ _))
  have RZ : Hid (w8.drew.heap[w.heap.size + 1]? = some (.cells #[.int .i64 0, .string ⟨#[]⟩, .int .i64 0, .int .i64 0, .int .u32 0, .int .i32 0] 27 (0, 0))) := Lib.hid RK8.out
  have HZ : Hid (w8.heap.size ≤ w8.drew.heap.size) := Lib.hid (Nat.le_refl _)
  have hy9 : w.heap.size < w8.heap.size := by omega
  have r0 := blk_cell RZ.out 0
  have r1 := blk_cell RZ.out 1
  have r2 := blk_cell RZ.out 2
  have r3 := blk_cell RZ.out 3
  have r4 := blk_cell RZ.out 4
  have r5 := blk_cell RZ.out 5
  have q0 := blk_frozen RZ.out 0
  have q1 := blk_frozen RZ.out 1
  have q2 := blk_frozen RZ.out 2
  have q3 := blk_frozen RZ.out 3
  have q4 := blk_frozen RZ.out 4
  have q5 := blk_frozen RZ.out 5
  have d0 : w8.drew.cell? ⟨w.heap.size, 0, none⟩ = some (.int .i64 1) := e0
  have d1 : w8.drew.cell? ⟨w.heap.size, 1, none⟩ = some (.int .i64 0) := e1
  have d2 : w8.drew.cell? ⟨w.heap.size, 2, none⟩ = some (.int .u32 0) := e2
  have d3 : w8.drew.cell? ⟨w.heap.size, 3, none⟩ = some (.int .i32 0) := e3
  clear e0 e1 e2 e3
  go_region_held3 (fun w' => w'.cell? ⟨w.heap.size, 0, none⟩ = some (.int .i64 1) ∧ w'.cell? ⟨w.heap.size, 1, none⟩ = some (.int .i64 0) ∧ w'.cell? ⟨w.heap.size, 2, none⟩ = some (.int .u32 0) ∧ w'.cell? ⟨w.heap.size, 3, none⟩ = some (.int .i32 0)) (first | (with_reducible exact ⟨d0, d1, d2, d3⟩) | (with_reducible exact ⟨a0, a1, a2, a3⟩) | go_keep) (first | (go_at_call 24; (with_reducible refine (HU1.out _).mono ?_); rintro e wa ⟨rfl, hb⟩; rw [← HS1.out]; replace RZ := Lib.hid (blk_below RZ.out hb); clear r0 r1 r2 r3 r4 r5 q0 q1 q2 q3 q4 q5; have r0 := blk_cell RZ.out 0; have r1 := blk_cell RZ.out 1; have r2 := blk_cell RZ.out 2; have r3 := blk_cell RZ.out 3; have r4 := blk_cell RZ.out 4; have r5 := blk_cell RZ.out 5; have q0 := blk_frozen RZ.out 0; have q1 := blk_frozen RZ.out 1; have q2 := blk_frozen RZ.out 2; have q3 := blk_frozen RZ.out 3; have q4 := blk_frozen RZ.out 4; have q5 := blk_frozen RZ.out 5; have hsz := hb.size; replace HX := Lib.hid (below_on HX.out HZ.out hb); have hz := HZ.out; clear HZ; have HZ : Hid (w8.heap.size ≤ wa.heap.size) := Lib.hid (Nat.le_trans hz hsz); clear hb hz hsz; have a0 : wa.cell? ⟨w.heap.size, 0, none⟩ = some (.int .i64 1) := (HX.out.cell (p := ⟨w.heap.size, 0, none⟩) hy9).trans d0; have a1 : wa.cell? ⟨w.heap.size, 1, none⟩ = some (.int .i64 0) := (HX.out.cell (p := ⟨w.heap.size, 1, none⟩) hy9).trans d1; have a2 : wa.cell? ⟨w.heap.size, 2, none⟩ = some (.int .u32 0) := (HX.out.cell (p := ⟨w.heap.size, 2, none⟩) hy9).trans d2; have a3 : wa.cell? ⟨w.heap.size, 3, none⟩ = some (.int .i32 0) := (HX.out.cell (p := ⟨w.heap.size, 3, none⟩) hy9).trans d3) | fail)
  all_goals
    have HBZ : Hid (Below w.heap.size w wa) := Lib.hid (HB8.out.trans (HX.out.mono (by omega)))
    go_wp2_with fail
    refine bodyPost_ret (results_cell_row rfl _ _ (w.heap.size + 1) 27 _ (0, 0) _ rfl (put6 RZ.out _ _ _ _ _ _) Try.underlying27 rfl (by kernel_rfl)) rfl ?_
    exact ⟨by rw [HR.out]; rfl, below6 HBZ.out (Nat.le_succ _) _ _ _ _ _ _⟩
set_option maxHeartbeats 4000000 in
set_option maxRecDepth 100000 in
theorem rset_mOne4 (kind u : Int) (low : Bool) (w : World) (hk : shp kind 0 = some (4, false, true, low)) (hs : Scal u) (h6 : u < 65536) :
    Calls Try.prog 10 #[.int .i64 kind, stV 0 0 0 0, .int .i32 u] w fun en w' => en = .returned (putV 0 (strOfNums (un false 4 65279 ++ un low 4 u)) 1) ∧ Below w.heap.size w w' := by
  have hf : Fit true 0 0 0 0 := ⟨rfl, rfl, rfl, .inl rfl⟩
  have hs0 : 0 ≤ u ∧ u ≤ 1114111 := ⟨hs.1, hs.2.1⟩
  have HSP := Lib.hid (fun W => rsplitC_no (u := u) W h6)
  have HU0 : Hid (∀ W, Calls Try.prog 24 #[.int .u32 65279, .int .i64 4, .bool false] W fun e w' => e = .returned (.string (strOfNums (un false 4 65279))) ∧ Below W.heap.size W w') := Lib.hid (fun W => runitC false W (by omega) (by omega) (by decide))
  have hz0 : (strOfNums (un false 4 65279)).size ≤ 4 := by rw [str_size]; have := un_len false (show (4 : Int) = 2 ∨ (4 : Int) = 4 by decide) 65279; omega
  obtain ⟨S0, hS0⟩ : ∃ S, S = strOfNums (un false 4 65279) := ⟨_, rfl⟩
  rw [← hS0] at hz0
  have HS0 := Lib.hid hS0
  have HU1 : Hid (∀ W, Calls Try.prog 24 #[.int .u32 u, .int .i64 4, .bool low] W fun e w' => e = .returned (.string (strOfNums (un low 4 u))) ∧ Below W.heap.size W w') := Lib.hid (fun W => runitC low W (by omega) (by omega) (by decide))
  have hz1 : (strOfNums (un low 4 u)).size ≤ 4 := by rw [str_size]; have := un_len low (show (4 : Int) = 2 ∨ (4 : Int) = 4 by decide) u; omega
  obtain ⟨S1, hS1⟩ : ∃ S, S = strOfNums (un low 4 u) := ⟨_, rfl⟩
  rw [← hS1] at hz1
  have HS1 := Lib.hid hS1
  have hwx : IntKind.u32.wrap u = u := by rw [IntKind.wrap_u32]; omega
  have HR : Hid (strOfNums (un false 4 65279 ++ un low 4 u) = S0 ++ S1) := Lib.hid (by rw [hS0, hS1, str_app])
  clear hS0 hS1
  have k1 : ¬ 9223372036854775807 < S0.size + S1.size := by omega
  have k0 : ¬ 9223372036854775807 < S1.size := by omega
  have hu' : ¬ 65535 < u := by omega
  have HS : Hid (decide (Scal u) = true) := Lib.hid (decide_eq_true hs)
  clear hs
  have HFI : Hid (∀ W, Calls Try.prog 21 #[.int .i64 kind, .agg #[.int .i64 0, .int .i64 0, .int .u32 0, .int .i32 0]] W fun e w' => e = .returned (.bool (decide (Fit true 0 0 0 0))) ∧ Below W.heap.size W w') := Lib.hid (fun W => rfitsC 0 0 0 W hk)
  unfold stV
  have HK := Lib.hid hk
  have HF := Lib.hid hf
  clear hk hf
  go_enter Try.func10, Try.ntmps10
  go_wp2_with fail
  refine (rhasC _ HK.out).mono ?_
  rintro e w1 ⟨rfl, hd⟩
  have hb := hd.below
  have ST1 : Hid ((w1).heap[w.heap.size]? = some (.cells #[.int .i64 0, .int .i64 0, .int .u32 0, .int .i32 0] 24 (0, 0))) := Lib.hid (blk_below (blk_alloc (heap_alloc_new _ _) _) hb)
  have RK1 : Hid ((w1).heap[w.heap.size + 1]? = some (.cells #[.int .i64 0, .string ⟨#[]⟩, .int .i64 0, .int .i64 0, .int .u32 0, .int .i32 0] 27 (0, 0))) := Lib.hid (blk_below (blk_second _ _ _) hb)
  have HB1 : Hid (Below w.heap.size w (w1)) := Lib.hid (on (below_alloc (below_alloc (Below.refl _ _) _) _) hb)
  clear hb hd
  have hz1 : w.heap.size + 1 < w1.heap.size := blk_lt RK1.out
  have hy1 : w.heap.size < w1.heap.size := by omega
  have e0 := blk_cell ST1.out 0
  have e1 := blk_cell ST1.out 1
  have e2 := blk_cell ST1.out 2
  have e3 := blk_cell ST1.out 3
  go_wp2_with fail
  refine (HFI.out _).mono ?_
  rintro e w2 ⟨rfl, hb⟩
  have ST2 : Hid ((w2).heap[w.heap.size]? = some (.cells #[.int .i64 0, .int .i64 0, .int .u32 0, .int .i32 0] 24 (0, 0))) := Lib.hid (blk_below ST1.out hb)
  have RK2 : Hid ((w2).heap[w.heap.size + 1]? = some (.cells #[.int .i64 0, .string ⟨#[]⟩, .int .i64 0, .int .i64 0, .int .u32 0, .int .i32 0] 27 (0, 0))) := Lib.hid (blk_below RK1.out hb)
  have HB2 : Hid (Below w.heap.size w (w2)) := Lib.hid (on HB1.out hb)
  clear hb ST1 RK1 HB1
  have hz2 : w.heap.size + 1 < w2.heap.size := blk_lt RK2.out
  have hy2 : w.heap.size < w2.heap.size := by omega
  rw [decide_eq_true HF.out]
  clear e0 e1 e2 e3
  go_wp2_with fail
  refine (rscalarC u _).mono ?_
  rintro e w3 ⟨rfl, hd⟩
  have hb := hd.below
  have ST3 : Hid ((w3).heap[w.heap.size]? = some (.cells #[.int .i64 0, .int .i64 0, .int .u32 0, .int .i32 0] 24 (0, 0))) := Lib.hid (blk_below ST2.out hb)
  have RK3 : Hid ((w3).heap[w.heap.size + 1]? = some (.cells #[.int .i64 0, .string ⟨#[]⟩, .int .i64 0, .int .i64 0, .int .u32 0, .int .i32 0] 27 (0, 0))) := Lib.hid (blk_below RK2.out hb)
  have HB3 : Hid (Below w.heap.size w (w3)) := Lib.hid (on HB2.out hb)
  clear hb hd ST2 RK2 HB2
  have hz3 : w.heap.size + 1 < w3.heap.size := blk_lt RK3.out
  have hy3 : w.heap.size < w3.heap.size := by omega
  rw [HS.out]
  go_wp2_with fail
  refine (rsizeC _ HK.out).mono ?_
  rintro e w4 ⟨rfl, hd⟩
  have hb := hd.below
  have ST4 : Hid ((w4).heap[w.heap.size]? = some (.cells #[.int .i64 0, .int .i64 0, .int .u32 0, .int .i32 0] 24 (0, 0))) := Lib.hid (blk_below ST3.out hb)
  have RK4 : Hid ((w4).heap[w.heap.size + 1]? = some (.cells #[.int .i64 0, .string ⟨#[]⟩, .int .i64 0, .int .i64 0, .int .u32 0, .int .i32 0] 27 (0, 0))) := Lib.hid (blk_below RK3.out hb)
  have HB4 : Hid (Below w.heap.size w (w4)) := Lib.hid (on HB3.out hb)
  clear hb hd ST3 RK3 HB3
  have hz4 : w.heap.size + 1 < w4.heap.size := blk_lt RK4.out
  have hy4 : w.heap.size < w4.heap.size := by omega
  have e0 := blk_cell ST4.out 0
  have e1 := blk_cell ST4.out 1
  have e2 := blk_cell ST4.out 2
  have e3 := blk_cell ST4.out 3
  go_wp2_with fail
  refine (rmarkedC _ HK.out).mono ?_
  rintro e w5 ⟨rfl, hd⟩
  have hb := hd.below
  have ST5 : Hid ((w5).heap[w.heap.size]? = some (.cells #[.int .i64 0, .int .i64 0, .int .u32 0, .int .i32 0] 24 (0, 0))) := Lib.hid (blk_below ST4.out hb)
  have RK5 : Hid ((w5).heap[w.heap.size + 1]? = some (.cells #[.int .i64 0, .string ⟨#[]⟩, .int .i64 0, .int .i64 0, .int .u32 0, .int .i32 0] 27 (0, 0))) := Lib.hid (blk_below RK4.out hb)
  have HB5 : Hid (Below w.heap.size w (w5)) := Lib.hid (on HB4.out hb)
  clear hb hd ST4 RK4 HB4
  have hz5 : w.heap.size + 1 < w5.heap.size := blk_lt RK5.out
  have hy5 : w.heap.size < w5.heap.size := by omega
  clear e0 e1 e2 e3
  have e0 := blk_cell ST5.out 0
  have e1 := blk_cell ST5.out 1
  have e2 := blk_cell ST5.out 2
  have e3 := blk_cell ST5.out 3
  have f0 := blk_frozen ST5.out 0
  go_wp2_with fail
  refine (HU0.out _).mono ?_
  rintro e w6 ⟨rfl, hb⟩
  rw [← HS0.out]
  clear e0 e1 e2 e3
  clear f0
  have ST6 : Hid ((w6).heap[w.heap.size]? = some (.cells #[.int .i64 0, .int .i64 0, .int .u32 0, .int .i32 0] 24 (0, 0))) := Lib.hid (blk_below ST5.out hb)
  have RK6 : Hid ((w6).heap[w.heap.size + 1]? = some (.cells #[.int .i64 0, .string ⟨#[]⟩, .int .i64 0, .int .i64 0, .int .u32 0, .int .i32 0] 27 (0, 0))) := Lib.hid (blk_below RK5.out hb)
  have HB6 : Hid (Below w.heap.size w (w6)) := Lib.hid (on HB5.out hb)
  clear hb ST5 RK5 HB5
  have hz6 : w.heap.size + 1 < w6.heap.size := blk_lt RK6.out
  have hy6 : w.heap.size < w6.heap.size := by omega
  have e0 := blk_cell ST6.out 0
  have e1 := blk_cell ST6.out 1
  have e2 := blk_cell ST6.out 2
  have e3 := blk_cell ST6.out 3
  have f0 := blk_frozen ST6.out 0
  go_wp2_with fail
  refine (rlittle1C _ HK.out).mono ?_
  rintro e w7 ⟨rfl, hd⟩
  have hb := hd.below
  clear e0 e1 e2 e3
  clear f0
  have ST7 : Hid ((w7).heap[w.heap.size]? = some (.cells #[.int .i64 1, .int .i64 0, .int .u32 0, .int .i32 0] 24 (0, 0))) := Lib.hid (blk_below (put4 ST6.out _) hb)
  have RK7 : Hid ((w7).heap[w.heap.size + 1]? = some (.cells #[.int .i64 0, .string ⟨#[]⟩, .int .i64 0, .int .i64 0, .int .u32 0, .int .i32 0] 27 (0, 0))) := Lib.hid (blk_below (blk_far RK6.out (show w.heap.size + 1 ≠ w.heap.size by omega) _) hb)
  have HB7 : Hid (Below w.heap.size w (w7)) := Lib.hid (on (HB6.out.setCell (Nat.le_refl _) _) hb)
  clear hb hd ST6 RK6 HB6
  have hz7 : w.heap.size + 1 < w7.heap.size := blk_lt RK7.out
  have hy7 : w.heap.size < w7.heap.size := by omega
  go_wp2_with fail
  refine (HSP.out _).mono ?_
  rintro e w8 ⟨rfl, hd⟩
  have hb := hd.below
  have ST8 : Hid ((w8).heap[w.heap.size]? = some (.cells #[.int .i64 1, .int .i64 0, .int .u32 0, .int .i32 0] 24 (0, 0))) := Lib.hid (blk_below ST7.out hb)
  have RK8 : Hid ((w8).heap[w.heap.size + 1]? = some (.cells #[.int .i64 0, .string ⟨#[]⟩, .int .i64 0, .int .i64 0, .int .u32 0, .int .i32 0] 27 (0, 0))) := Lib.hid (blk_below RK7.out hb)
  have HB8 : Hid (Below w.heap.size w (w8)) := Lib.hid (on HB7.out hb)
  clear hb hd ST7 RK7 HB7
  have hz8 : w.heap.size + 1 < w8.heap.size := blk_lt RK8.out
  have hy8 : w.heap.size < w8.heap.size := by omega
  go_wp2_with fail
  have e0 := blk_cell ST8.out 0
  have e1 := blk_cell ST8.out 1
  have e2 := blk_cell ST8.out 2
  have e3 := blk_cell ST8.out 3
  have HX : Hid (Below w8.heap.size w8 w8.drew) := Lib.hid (below_drew (Below.refl _ _))
  have RZ : Hid (w8.drew.heap[w.heap.size + 1]? = some (.cells #[.int .i64 0, .string ⟨#[]⟩, .int .i64 0, .int .i64 0, .int .u32 0, .int .i32 0] 27 (0, 0))) := Lib.hid RK8.out
  have HZ : Hid (w8.heap.size ≤ w8.drew.heap.size) := Lib.hid (Nat.le_refl _)
  have hy9 : w.heap.size < w8.heap.size := by omega
  have r0 := blk_cell RZ.out 0
  have r1 := blk_cell RZ.out 1
  have r2 := blk_cell RZ.out 2
  have r3 := blk_cell RZ.out 3
  have r4 := blk_cell RZ.out 4
  have r5 := blk_cell RZ.out 5
  have q0 := blk_frozen RZ.out 0
  have q1 := blk_frozen RZ.out 1
  have q2 := blk_frozen RZ.out 2
  have q3 := blk_frozen RZ.out 3
  have q4 := blk_frozen RZ.out 4
  have q5 := blk_frozen RZ.out 5
  have d0 : w8.drew.cell? ⟨w.heap.size, 0, none⟩ = some (.int .i64 1) := e0
  have d1 : w8.drew.cell? ⟨w.heap.size, 1, none⟩ = some (.int .i64 0) := e1
  have d2 : w8.drew.cell? ⟨w.heap.size, 2, none⟩ = some (.int .u32 0) := e2
  have d3 : w8.drew.cell? ⟨w.heap.size, 3, none⟩ = some (.int .i32 0) := e3
  clear e0 e1 e2 e3
  go_region_held3 (fun w' => w'.cell? ⟨w.heap.size, 0, none⟩ = some (.int .i64 1) ∧ w'.cell? ⟨w.heap.size, 1, none⟩ = some (.int .i64 0) ∧ w'.cell? ⟨w.heap.size, 2, none⟩ = some (.int .u32 0) ∧ w'.cell? ⟨w.heap.size, 3, none⟩ = some (.int .i32 0)) (first | (with_reducible exact ⟨d0, d1, d2, d3⟩) | (with_reducible exact ⟨a0, a1, a2, a3⟩) | go_keep) (first | (go_at_call 24; (with_reducible refine (HU1.out _).mono ?_); rintro e wa ⟨rfl, hb⟩; rw [← HS1.out]; replace RZ := Lib.hid (blk_below RZ.out hb); clear r0 r1 r2 r3 r4 r5 q0 q1 q2 q3 q4 q5; have r0 := blk_cell RZ.out 0; have r1 := blk_cell RZ.out 1; have r2 := blk_cell RZ.out 2; have r3 := blk_cell RZ.out 3; have r4 := blk_cell RZ.out 4; have r5 := blk_cell RZ.out 5; have q0 := blk_frozen RZ.out 0; have q1 := blk_frozen RZ.out 1; have q2 := blk_frozen RZ.out 2; have q3 := blk_frozen RZ.out 3; have q4 := blk_frozen RZ.out 4; have q5 := blk_frozen RZ.out 5; have hsz := hb.size; replace HX := Lib.hid (below_on HX.out HZ.out hb); have hz := HZ.out; clear HZ; have HZ : Hid (w8.heap.size ≤ wa.heap.size) := Lib.hid (Nat.le_trans hz hsz); clear hb hz hsz; have a0 : wa.cell? ⟨w.heap.size, 0, none⟩ = some (.int .i64 1) := (HX.out.cell (p := ⟨w.heap.size, 0, none⟩) hy9).trans d0; have a1 : wa.cell? ⟨w.heap.size, 1, none⟩ = some (.int .i64 0) := (HX.out.cell (p := ⟨w.heap.size, 1, none⟩) hy9).trans d1; have a2 : wa.cell? ⟨w.heap.size, 2, none⟩ = some (.int .u32 0) := (HX.out.cell (p := ⟨w.heap.size, 2, none⟩) hy9).trans d2; have a3 : wa.cell? ⟨w.heap.size, 3, none⟩ = some (.int .i32 0) := (HX.out.cell (p := ⟨w.heap.size, 3, none⟩) hy9).trans d3) | fail)
  all_goals
    have HBZ : Hid (Below w.heap.size w wa) := Lib.hid (HB8.out.trans (HX.out.mono (by omega)))
    go_wp2_with fail
    refine bodyPost_ret (results_cell_row rfl _ _ (w.heap.size + 1) 27 _ (0, 0) _ rfl (put6 RZ.out _ _ _ _ _ _) Try.underlying27 rfl (by kernel_rfl)) rfl ?_
    exact ⟨by rw [HR.out]; rfl, below6 HBZ.out (Nat.le_succ _) _ _ _ _ _ _⟩
set_option maxHeartbeats 4000000 in
set_option maxRecDepth 100000 in
theorem rset_mOne4b (kind u : Int) (low : Bool) (w : World) (hk : shp kind 0 = some (4, false, true, low)) (hs : Scal u) (h6 : 65536 ≤ u)(h9 : (kind == 9) = false) (h10 : (kind == 10) = false) :
    Calls Try.prog 10 #[.int .i64 kind, stV 0 0 0 0, .int .i32 u] w fun en w' => en = .returned (putV 0 (strOfNums (un false 4 65279 ++ un low 4 u)) 1) ∧ Below w.heap.size w w' := by
  have hf : Fit true 0 0 0 0 := ⟨rfl, rfl, rfl, .inl rfl⟩
  have hs0 : 0 ≤ u ∧ u ≤ 1114111 := ⟨hs.1, hs.2.1⟩
  have HSP := Lib.hid (fun W => rsplitC (u := u) W h6 hs0.2)
  have HU0 : Hid (∀ W, Calls Try.prog 24 #[.int .u32 65279, .int .i64 4, .bool false] W fun e w' => e = .returned (.string (strOfNums (un false 4 65279))) ∧ Below W.heap.size W w') := Lib.hid (fun W => runitC false W (by omega) (by omega) (by decide))
  have hz0 : (strOfNums (un false 4 65279)).size ≤ 4 := by rw [str_size]; have := un_len false (show (4 : Int) = 2 ∨ (4 : Int) = 4 by decide) 65279; omega
  obtain ⟨S0, hS0⟩ : ∃ S, S = strOfNums (un false 4 65279) := ⟨_, rfl⟩
  rw [← hS0] at hz0
  have HS0 := Lib.hid hS0
  have HU1 : Hid (∀ W, Calls Try.prog 24 #[.int .u32 u, .int .i64 4, .bool low] W fun e w' => e = .returned (.string (strOfNums (un low 4 u))) ∧ Below W.heap.size W w') := Lib.hid (fun W => runitC low W (by omega) (by omega) (by decide))
  have hz1 : (strOfNums (un low 4 u)).size ≤ 4 := by rw [str_size]; have := un_len low (show (4 : Int) = 2 ∨ (4 : Int) = 4 by decide) u; omega
  obtain ⟨S1, hS1⟩ : ∃ S, S = strOfNums (un low 4 u) := ⟨_, rfl⟩
  rw [← hS1] at hz1
  have HS1 := Lib.hid hS1
  have hwx : IntKind.u32.wrap u = u := by rw [IntKind.wrap_u32]; omega
  have HR : Hid (strOfNums (un false 4 65279 ++ un low 4 u) = S0 ++ S1) := Lib.hid (by rw [hS0, hS1, str_app])
  clear hS0 hS1
  have k1 : ¬ 9223372036854775807 < S0.size + S1.size := by omega
  have k0 : ¬ 9223372036854775807 < S1.size := by omega
  have hu : 65535 < u := by omega
  have HS : Hid (decide (Scal u) = true) := Lib.hid (decide_eq_true hs)
  clear hs
  have HFI : Hid (∀ W, Calls Try.prog 21 #[.int .i64 kind, .agg #[.int .i64 0, .int .i64 0, .int .u32 0, .int .i32 0]] W fun e w' => e = .returned (.bool (decide (Fit true 0 0 0 0))) ∧ Below W.heap.size W w') := Lib.hid (fun W => rfitsC 0 0 0 W hk)
  unfold stV
  have HK := Lib.hid hk
  have HF := Lib.hid hf
  clear hk hf
  go_enter Try.func10, Try.ntmps10
  go_wp2_with fail
  refine (rhasC _ HK.out).mono ?_
  rintro e w1 ⟨rfl, hd⟩
  have hb := hd.below
  have ST1 : Hid ((w1).heap[w.heap.size]? = some (.cells #[.int .i64 0, .int .i64 0, .int .u32 0, .int .i32 0] 24 (0, 0))) := Lib.hid (blk_below (blk_alloc (heap_alloc_new _ _) _) hb)
  have RK1 : Hid ((w1).heap[w.heap.size + 1]? = some (.cells #[.int .i64 0, .string ⟨#[]⟩, .int .i64 0, .int .i64 0, .int .u32 0, .int .i32 0] 27 (0, 0))) := Lib.hid (blk_below (blk_second _ _ _) hb)
  have HB1 : Hid (Below w.heap.size w (w1)) := Lib.hid (on (below_alloc (below_alloc (Below.refl _ _) _) _) hb)
  clear hb hd
  have hz1 : w.heap.size + 1 < w1.heap.size := blk_lt RK1.out
  have hy1 : w.heap.size < w1.heap.size := by omega
  have e0 := blk_cell ST1.out 0
  have e1 := blk_cell ST1.out 1
  have e2 := blk_cell ST1.out 2
  have e3 := blk_cell ST1.out 3
  go_wp2_with fail
  refine (HFI.out _).mono ?_
  rintro e w2 ⟨rfl, hb⟩
  have ST2 : Hid ((w2).heap[w.heap.size]? = some (.cells #[.int .i64 0, .int .i64 0, .int .u32 0, .int .i32 0] 24 (0, 0))) := Lib.hid (blk_below ST1.out hb)
  have RK2 : Hid ((w2).heap[w.heap.size + 1]? = some (.cells #[.int .i64 0, .string ⟨#[]⟩, .int .i64 0, .int .i64 0, .int .u32 0, .int .i32 0] 27 (0, 0))) := Lib.hid (blk_below RK1.out hb)
  have HB2 : Hid (Below w.heap.size w (w2)) := Lib.hid (on HB1.out hb)
  clear hb ST1 RK1 HB1
  have hz2 : w.heap.size + 1 < w2.heap.size := blk_lt RK2.out
  have hy2 : w.heap.size < w2.heap.size := by omega
  rw [decide_eq_true HF.out]
  clear e0 e1 e2 e3
  go_wp2_with fail
  refine (rscalarC u _).mono ?_
  rintro e w3 ⟨rfl, hd⟩
  have hb := hd.below
  have ST3 : Hid ((w3).heap[w.heap.size]? = some (.cells #[.int .i64 0, .int .i64 0, .int .u32 0, .int .i32 0] 24 (0, 0))) := Lib.hid (blk_below ST2.out hb)
  have RK3 : Hid ((w3).heap[w.heap.size + 1]? = some (.cells #[.int .i64 0, .string ⟨#[]⟩, .int .i64 0, .int .i64 0, .int .u32 0, .int .i32 0] 27 (0, 0))) := Lib.hid (blk_below RK2.out hb)
  have HB3 : Hid (Below w.heap.size w (w3)) := Lib.hid (on HB2.out hb)
  clear hb hd ST2 RK2 HB2
  have hz3 : w.heap.size + 1 < w3.heap.size := blk_lt RK3.out
  have hy3 : w.heap.size < w3.heap.size := by omega
  rw [HS.out]
  go_wp2_with fail
  refine (rsizeC _ HK.out).mono ?_
  rintro e w4 ⟨rfl, hd⟩
  have hb := hd.below
  have ST4 : Hid ((w4).heap[w.heap.size]? = some (.cells #[.int .i64 0, .int .i64 0, .int .u32 0, .int .i32 0] 24 (0, 0))) := Lib.hid (blk_below ST3.out hb)
  have RK4 : Hid ((w4).heap[w.heap.size + 1]? = some (.cells #[.int .i64 0, .string ⟨#[]⟩, .int .i64 0, .int .i64 0, .int .u32 0, .int .i32 0] 27 (0, 0))) := Lib.hid (blk_below RK3.out hb)
  have HB4 : Hid (Below w.heap.size w (w4)) := Lib.hid (on HB3.out hb)
  clear hb hd ST3 RK3 HB3
  have hz4 : w.heap.size + 1 < w4.heap.size := blk_lt RK4.out
  have hy4 : w.heap.size < w4.heap.size := by omega
  have e0 := blk_cell ST4.out 0
  have e1 := blk_cell ST4.out 1
  have e2 := blk_cell ST4.out 2
  have e3 := blk_cell ST4.out 3
  go_wp2_with fail
  refine (rmarkedC _ HK.out).mono ?_
  rintro e w5 ⟨rfl, hd⟩
  have hb := hd.below
  have ST5 : Hid ((w5).heap[w.heap.size]? = some (.cells #[.int .i64 0, .int .i64 0, .int .u32 0, .int .i32 0] 24 (0, 0))) := Lib.hid (blk_below ST4.out hb)
  have RK5 : Hid ((w5).heap[w.heap.size + 1]? = some (.cells #[.int .i64 0, .string ⟨#[]⟩, .int .i64 0, .int .i64 0, .int .u32 0, .int .i32 0] 27 (0, 0))) := Lib.hid (blk_below RK4.out hb)
  have HB5 : Hid (Below w.heap.size w (w5)) := Lib.hid (on HB4.out hb)
  clear hb hd ST4 RK4 HB4
  have hz5 : w.heap.size + 1 < w5.heap.size := blk_lt RK5.out
  have hy5 : w.heap.size < w5.heap.size := by omega
  clear e0 e1 e2 e3
  have e0 := blk_cell ST5.out 0
  have e1 := blk_cell ST5.out 1
  have e2 := blk_cell ST5.out 2
  have e3 := blk_cell ST5.out 3
  have f0 := blk_frozen ST5.out 0
  go_wp2_with fail
  refine (HU0.out _).mono ?_
  rintro e w6 ⟨rfl, hb⟩
  rw [← HS0.out]
  clear e0 e1 e2 e3
  clear f0
  have ST6 : Hid ((w6).heap[w.heap.size]? = some (.cells #[.int .i64 0, .int .i64 0, .int .u32 0, .int .i32 0] 24 (0, 0))) := Lib.hid (blk_below ST5.out hb)
  have RK6 : Hid ((w6).heap[w.heap.size + 1]? = some (.cells #[.int .i64 0, .string ⟨#[]⟩, .int .i64 0, .int .i64 0, .int .u32 0, .int .i32 0] 27 (0, 0))) := Lib.hid (blk_below RK5.out hb)
  have HB6 : Hid (Below w.heap.size w (w6)) := Lib.hid (on HB5.out hb)
  clear hb ST5 RK5 HB5
  have hz6 : w.heap.size + 1 < w6.heap.size := blk_lt RK6.out
  have hy6 : w.heap.size < w6.heap.size := by omega
  have e0 := blk_cell ST6.out 0
  have e1 := blk_cell ST6.out 1
  have e2 := blk_cell ST6.out 2
  have e3 := blk_cell ST6.out 3
  have f0 := blk_frozen ST6.out 0
  go_wp2_with fail
  refine (rlittle1C _ HK.out).mono ?_
  rintro e w7 ⟨rfl, hd⟩
  have hb := hd.below
  clear e0 e1 e2 e3
  clear f0
  have ST7 : Hid ((w7).heap[w.heap.size]? = some (.cells #[.int .i64 1, .int .i64 0, .int .u32 0, .int .i32 0] 24 (0, 0))) := Lib.hid (blk_below (put4 ST6.out _) hb)
  have RK7 : Hid ((w7).heap[w.heap.size + 1]? = some (.cells #[.int .i64 0, .string ⟨#[]⟩, .int .i64 0, .int .i64 0, .int .u32 0, .int .i32 0] 27 (0, 0))) := Lib.hid (blk_below (blk_far RK6.out (show w.heap.size + 1 ≠ w.heap.size by omega) _) hb)
  have HB7 : Hid (Below w.heap.size w (w7)) := Lib.hid (on (HB6.out.setCell (Nat.le_refl _) _) hb)
  clear hb hd ST6 RK6 HB6
  have hz7 : w.heap.size + 1 < w7.heap.size := blk_lt RK7.out
  have hy7 : w.heap.size < w7.heap.size := by omega
  go_wp2_with fail
  refine (HSP.out _).mono ?_
  rintro e w8 ⟨rfl, hd⟩
  have hb := hd.below
  have ST8 : Hid ((w8).heap[w.heap.size]? = some (.cells #[.int .i64 1, .int .i64 0, .int .u32 0, .int .i32 0] 24 (0, 0))) := Lib.hid (blk_below ST7.out hb)
  have RK8 : Hid ((w8).heap[w.heap.size + 1]? = some (.cells #[.int .i64 0, .string ⟨#[]⟩, .int .i64 0, .int .i64 0, .int .u32 0, .int .i32 0] 27 (0, 0))) := Lib.hid (blk_below RK7.out hb)
  have HB8 : Hid (Below w.heap.size w (w8)) := Lib.hid (on HB7.out hb)
  clear hb hd ST7 RK7 HB7
  have hz8 : w.heap.size + 1 < w8.heap.size := blk_lt RK8.out
  have hy8 : w.heap.size < w8.heap.size := by omega
  go_wp2_with fail
  have e0 := blk_cell ST8.out 0
  have e1 := blk_cell ST8.out 1
  have e2 := blk_cell ST8.out 2
  have e3 := blk_cell ST8.out 3
  have HX : Hid (Below w8.heap.size w8 w8.drew) := Lib.hid (below_drew (Below.refl _ _))
  have RZ : Hid (w8.drew.heap[w.heap.size + 1]? = some (.cells #[.int .i64 0, .string ⟨#[]⟩, .int .i64 0, .int .i64 0, .int .u32 0, .int .i32 0] 27 (0, 0))) := Lib.hid RK8.out
  have HZ : Hid (w8.heap.size ≤ w8.drew.heap.size) := Lib.hid (Nat.le_refl _)
  have hy9 : w.heap.size < w8.heap.size := by omega
  have r0 := blk_cell RZ.out 0
  have r1 := blk_cell RZ.out 1
  have r2 := blk_cell RZ.out 2
  have r3 := blk_cell RZ.out 3
  have r4 := blk_cell RZ.out 4
  have r5 := blk_cell RZ.out 5
  have q0 := blk_frozen RZ.out 0
  have q1 := blk_frozen RZ.out 1
  have q2 := blk_frozen RZ.out 2
  have q3 := blk_frozen RZ.out 3
  have q4 := blk_frozen RZ.out 4
  have q5 := blk_frozen RZ.out 5
  have d0 : w8.drew.cell? ⟨w.heap.size, 0, none⟩ = some (.int .i64 1) := e0
  have d1 : w8.drew.cell? ⟨w.heap.size, 1, none⟩ = some (.int .i64 0) := e1
  have d2 : w8.drew.cell? ⟨w.heap.size, 2, none⟩ = some (.int .u32 0) := e2
  have d3 : w8.drew.cell? ⟨w.heap.size, 3, none⟩ = some (.int .i32 0) := e3
  clear e0 e1 e2 e3
  go_region_held3 (fun w' => w'.cell? ⟨w.heap.size, 0, none⟩ = some (.int .i64 1) ∧ w'.cell? ⟨w.heap.size, 1, none⟩ = some (.int .i64 0) ∧ w'.cell? ⟨w.heap.size, 2, none⟩ = some (.int .u32 0) ∧ w'.cell? ⟨w.heap.size, 3, none⟩ = some (.int .i32 0)) (first | (with_reducible exact ⟨d0, d1, d2, d3⟩) | (with_reducible exact ⟨a0, a1, a2, a3⟩) | go_keep) (first | (go_at_call 24; (with_reducible refine (HU1.out _).mono ?_); rintro e wa ⟨rfl, hb⟩; rw [← HS1.out]; replace RZ := Lib.hid (blk_below RZ.out hb); clear r0 r1 r2 r3 r4 r5 q0 q1 q2 q3 q4 q5; have r0 := blk_cell RZ.out 0; have r1 := blk_cell RZ.out 1; have r2 := blk_cell RZ.out 2; have r3 := blk_cell RZ.out 3; have r4 := blk_cell RZ.out 4; have r5 := blk_cell RZ.out 5; have q0 := blk_frozen RZ.out 0; have q1 := blk_frozen RZ.out 1; have q2 := blk_frozen RZ.out 2; have q3 := blk_frozen RZ.out 3; have q4 := blk_frozen RZ.out 4; have q5 := blk_frozen RZ.out 5; have hsz := hb.size; replace HX := Lib.hid (below_on HX.out HZ.out hb); have hz := HZ.out; clear HZ; have HZ : Hid (w8.heap.size ≤ wa.heap.size) := Lib.hid (Nat.le_trans hz hsz); clear hb hz hsz; have a0 : wa.cell? ⟨w.heap.size, 0, none⟩ = some (.int .i64 1) := (HX.out.cell (p := ⟨w.heap.size, 0, none⟩) hy9).trans d0; have a1 : wa.cell? ⟨w.heap.size, 1, none⟩ = some (.int .i64 0) := (HX.out.cell (p := ⟨w.heap.size, 1, none⟩) hy9).trans d1; have a2 : wa.cell? ⟨w.heap.size, 2, none⟩ = some (.int .u32 0) := (HX.out.cell (p := ⟨w.heap.size, 2, none⟩) hy9).trans d2; have a3 : wa.cell? ⟨w.heap.size, 3, none⟩ = some (.int .i32 0) := (HX.out.cell (p := ⟨w.heap.size, 3, none⟩) hy9).trans d3) | fail)
  all_goals
    have HBZ : Hid (Below w.heap.size w wa) := Lib.hid (HB8.out.trans (HX.out.mono (by omega)))
    go_wp2_with fail
    refine bodyPost_ret (results_cell_row rfl _ _ (w.heap.size + 1) 27 _ (0, 0) _ rfl (put6 RZ.out _ _ _ _ _ _) Try.underlying27 rfl (by kernel_rfl)) rfl ?_
    exact ⟨by rw [HR.out]; rfl, below6 HBZ.out (Nat.le_succ _) _ _ _ _ _ _⟩
set_option maxHeartbeats 4000000 in
set_option maxRecDepth 100000 in
theorem rset_mTwo (kind u : Int) (low : Bool) (w : World) (hk : shp kind 0 = some (2, true, true, low)) (hs : Scal u) (h6 : 65536 ≤ u)(h9 : (kind == 9) = false) (h10 : (kind == 10) = false) :
    Calls Try.prog 10 #[.int .i64 kind, stV 0 0 0 0, .int .i32 u] w fun en w' => en = .returned (putV 0 (strOfNums (un false 2 65279 ++ (un low 2 (55296 + (u - 65536) / 1024) ++ un low 2 (56320 + (u - 65536) % 1024)))) 1) ∧ Below w.heap.size w w' := by
  have hf : Fit true 0 0 0 0 := ⟨rfl, rfl, rfl, .inl rfl⟩
  have hs0 : 0 ≤ u ∧ u ≤ 1114111 := ⟨hs.1, hs.2.1⟩
  have HSP := Lib.hid (fun W => rsplitC (u := u) W h6 hs0.2)
  have HU0 : Hid (∀ W, Calls Try.prog 24 #[.int .u32 65279, .int .i64 2, .bool false] W fun e w' => e = .returned (.string (strOfNums (un false 2 65279))) ∧ Below W.heap.size W w') := Lib.hid (fun W => runitC false W (by omega) (by omega) (by decide))
  have hz0 : (strOfNums (un false 2 65279)).size ≤ 4 := by rw [str_size]; have := un_len false (show (2 : Int) = 2 ∨ (2 : Int) = 4 by decide) 65279; omega
  obtain ⟨S0, hS0⟩ : ∃ S, S = strOfNums (un false 2 65279) := ⟨_, rfl⟩
  rw [← hS0] at hz0
  have HS0 := Lib.hid hS0
  obtain ⟨x, hx⟩ : ∃ x, x = 55296 + (u - 65536) / 1024 := ⟨_, rfl⟩
  obtain ⟨y, hy⟩ : ∃ y, y = 56320 + (u - 65536) % 1024 := ⟨_, rfl⟩
  rw [← hx, ← hy] at HSP ⊢
  have hxb : 0 ≤ x ∧ x < 65536 := by omega
  have hyb : 0 ≤ y ∧ y < 65536 := by omega
  clear hx hy
  have HU1 : Hid (∀ W, Calls Try.prog 24 #[.int .u32 x, .int .i64 2, .bool low] W fun e w' => e = .returned (.string (strOfNums (un low 2 x))) ∧ Below W.heap.size W w') := Lib.hid (fun W => runitC low W (by omega) (by omega) (by decide))
  have hz1 : (strOfNums (un low 2 x)).size ≤ 4 := by rw [str_size]; have := un_len low (show (2 : Int) = 2 ∨ (2 : Int) = 4 by decide) x; omega
  obtain ⟨S1, hS1⟩ : ∃ S, S = strOfNums (un low 2 x) := ⟨_, rfl⟩
  rw [← hS1] at hz1
  have HS1 := Lib.hid hS1
  have HU2 : Hid (∀ W, Calls Try.prog 24 #[.int .u32 y, .int .i64 2, .bool low] W fun e w' => e = .returned (.string (strOfNums (un low 2 y))) ∧ Below W.heap.size W w') := Lib.hid (fun W => runitC low W (by omega) (by omega) (by decide))
  have hz2 : (strOfNums (un low 2 y)).size ≤ 4 := by rw [str_size]; have := un_len low (show (2 : Int) = 2 ∨ (2 : Int) = 4 by decide) y; omega
  obtain ⟨S2, hS2⟩ : ∃ S, S = strOfNums (un low 2 y) := ⟨_, rfl⟩
  rw [← hS2] at hz2
  have HS2 := Lib.hid hS2
  have hwx : IntKind.u32.wrap x = x := by rw [IntKind.wrap_u32]; omega
  have hwy : IntKind.u32.wrap y = y := by rw [IntKind.wrap_u32]; omega
  have HR : Hid (strOfNums (un false 2 65279 ++ (un low 2 x ++ un low 2 y)) = S0 ++ S1 ++ S2) := Lib.hid (by rw [hS0, hS1, hS2, str_app, str_app, List.append_assoc])
  clear hS0 hS1 hS2
  have k1 : ¬ 9223372036854775807 < S0.size + S1.size := by omega
  have k2 : ¬ 9223372036854775807 < S0.size + S1.size + S2.size := by omega
  have k0 : ¬ 9223372036854775807 < S1.size := by omega
  have hu : 65535 < u := by omega
  have HS : Hid (decide (Scal u) = true) := Lib.hid (decide_eq_true hs)
  clear hs
  have HFI : Hid (∀ W, Calls Try.prog 21 #[.int .i64 kind, .agg #[.int .i64 0, .int .i64 0, .int .u32 0, .int .i32 0]] W fun e w' => e = .returned (.bool (decide (Fit true 0 0 0 0))) ∧ Below W.heap.size W w') := Lib.hid (fun W => rfitsC 0 0 0 W hk)
  unfold stV
  have HK := Lib.hid hk
  have HF := Lib.hid hf
  clear hk hf
  go_enter Try.func10, Try.ntmps10
  go_wp2_with fail
  refine (rhasC _ HK.out).mono ?_
  rintro e w1 ⟨rfl, hd⟩
  have hb := hd.below
  have ST1 : Hid ((w1).heap[w.heap.size]? = some (.cells #[.int .i64 0, .int .i64 0, .int .u32 0, .int .i32 0] 24 (0, 0))) := Lib.hid (blk_below (blk_alloc (heap_alloc_new _ _) _) hb)
  have RK1 : Hid ((w1).heap[w.heap.size + 1]? = some (.cells #[.int .i64 0, .string ⟨#[]⟩, .int .i64 0, .int .i64 0, .int .u32 0, .int .i32 0] 27 (0, 0))) := Lib.hid (blk_below (blk_second _ _ _) hb)
  have HB1 : Hid (Below w.heap.size w (w1)) := Lib.hid (on (below_alloc (below_alloc (Below.refl _ _) _) _) hb)
  clear hb hd
  have hz1 : w.heap.size + 1 < w1.heap.size := blk_lt RK1.out
  have hy1 : w.heap.size < w1.heap.size := by omega
  have e0 := blk_cell ST1.out 0
  have e1 := blk_cell ST1.out 1
  have e2 := blk_cell ST1.out 2
  have e3 := blk_cell ST1.out 3
  go_wp2_with fail
  refine (HFI.out _).mono ?_
  rintro e w2 ⟨rfl, hb⟩
  have ST2 : Hid ((w2).heap[w.heap.size]? = some (.cells #[.int .i64 0, .int .i64 0, .int .u32 0, .int .i32 0] 24 (0, 0))) := Lib.hid (blk_below ST1.out hb)
  have RK2 : Hid ((w2).heap[w.heap.size + 1]? = some (.cells #[.int .i64 0, .string ⟨#[]⟩, .int .i64 0, .int .i64 0, .int .u32 0, .int .i32 0] 27 (0, 0))) := Lib.hid (blk_below RK1.out hb)
  have HB2 : Hid (Below w.heap.size w (w2)) := Lib.hid (on HB1.out hb)
  clear hb ST1 RK1 HB1
  have hz2 : w.heap.size + 1 < w2.heap.size := blk_lt RK2.out
  have hy2 : w.heap.size < w2.heap.size := by omega
  rw [decide_eq_true HF.out]
  clear e0 e1 e2 e3
  go_wp2_with fail
  refine (rscalarC u _).mono ?_
  rintro e w3 ⟨rfl, hd⟩
  have hb := hd.below
  have ST3 : Hid ((w3).heap[w.heap.size]? = some (.cells #[.int .i64 0, .int .i64 0, .int .u32 0, .int .i32 0] 24 (0, 0))) := Lib.hid (blk_below ST2.out hb)
  have RK3 : Hid ((w3).heap[w.heap.size + 1]? = some (.cells #[.int .i64 0, .string ⟨#[]⟩, .int .i64 0, .int .i64 0, .int .u32 0, .int .i32 0] 27 (0, 0))) := Lib.hid (blk_below RK2.out hb)
  have HB3 : Hid (Below w.heap.size w (w3)) := Lib.hid (on HB2.out hb)
  clear hb hd ST2 RK2 HB2
  have hz3 : w.heap.size + 1 < w3.heap.size := blk_lt RK3.out
  have hy3 : w.heap.size < w3.heap.size := by omega
  rw [HS.out]
  go_wp2_with fail
  refine (rsizeC _ HK.out).mono ?_
  rintro e w4 ⟨rfl, hd⟩
  have hb := hd.below
  have ST4 : Hid ((w4).heap[w.heap.size]? = some (.cells #[.int .i64 0, .int .i64 0, .int .u32 0, .int .i32 0] 24 (0, 0))) := Lib.hid (blk_below ST3.out hb)
  have RK4 : Hid ((w4).heap[w.heap.size + 1]? = some (.cells #[.int .i64 0, .string ⟨#[]⟩, .int .i64 0, .int .i64 0, .int .u32 0, .int .i32 0] 27 (0, 0))) := Lib.hid (blk_below RK3.out hb)
  have HB4 : Hid (Below w.heap.size w (w4)) := Lib.hid (on HB3.out hb)
  clear hb hd ST3 RK3 HB3
  have hz4 : w.heap.size + 1 < w4.heap.size := blk_lt RK4.out
  have hy4 : w.heap.size < w4.heap.size := by omega
  have e0 := blk_cell ST4.out 0
  have e1 := blk_cell ST4.out 1
  have e2 := blk_cell ST4.out 2
  have e3 := blk_cell ST4.out 3
  go_wp2_with fail
  refine (rmarkedC _ HK.out).mono ?_
  rintro e w5 ⟨rfl, hd⟩
  have hb := hd.below
  have ST5 : Hid ((w5).heap[w.heap.size]? = some (.cells #[.int .i64 0, .int .i64 0, .int .u32 0, .int .i32 0] 24 (0, 0))) := Lib.hid (blk_below ST4.out hb)
  have RK5 : Hid ((w5).heap[w.heap.size + 1]? = some (.cells #[.int .i64 0, .string ⟨#[]⟩, .int .i64 0, .int .i64 0, .int .u32 0, .int .i32 0] 27 (0, 0))) := Lib.hid (blk_below RK4.out hb)
  have HB5 : Hid (Below w.heap.size w (w5)) := Lib.hid (on HB4.out hb)
  clear hb hd ST4 RK4 HB4
  have hz5 : w.heap.size + 1 < w5.heap.size := blk_lt RK5.out
  have hy5 : w.heap.size < w5.heap.size := by omega
  clear e0 e1 e2 e3
  have e0 := blk_cell ST5.out 0
  have e1 := blk_cell ST5.out 1
  have e2 := blk_cell ST5.out 2
  have e3 := blk_cell ST5.out 3
  have f0 := blk_frozen ST5.out 0
  go_wp2_with fail
  refine (HU0.out _).mono ?_
  rintro e w6 ⟨rfl, hb⟩
  rw [← HS0.out]
  clear e0 e1 e2 e3
  clear f0
  have ST6 : Hid ((w6).heap[w.heap.size]? = some (.cells #[.int .i64 0, .int .i64 0, .int .u32 0, .int .i32 0] 24 (0, 0))) := Lib.hid (blk_below ST5.out hb)
  have RK6 : Hid ((w6).heap[w.heap.size + 1]? = some (.cells #[.int .i64 0, .string ⟨#[]⟩, .int .i64 0, .int .i64 0, .int .u32 0, .int .i32 0] 27 (0, 0))) := Lib.hid (blk_below RK5.out hb)
  have HB6 : Hid (Below w.heap.size w (w6)) := Lib.hid (on HB5.out hb)
  clear hb ST5 RK5 HB5
  have hz6 : w.heap.size + 1 < w6.heap.size := blk_lt RK6.out
  have hy6 : w.heap.size < w6.heap.size := by omega
  have e0 := blk_cell ST6.out 0
  have e1 := blk_cell ST6.out 1
  have e2 := blk_cell ST6.out 2
  have e3 := blk_cell ST6.out 3
  have f0 := blk_frozen ST6.out 0
  go_wp2_with fail
  refine (rlittle1C _ HK.out).mono ?_
  rintro e w7 ⟨rfl, hd⟩
  have hb := hd.below
  clear e0 e1 e2 e3
  clear f0
  have ST7 : Hid ((w7).heap[w.heap.size]? = some (.cells #[.int .i64 1, .int .i64 0, .int .u32 0, .int .i32 0] 24 (0, 0))) := Lib.hid (blk_below (put4 ST6.out _) hb)
  have RK7 : Hid ((w7).heap[w.heap.size + 1]? = some (.cells #[.int .i64 0, .string ⟨#[]⟩, .int .i64 0, .int .i64 0, .int .u32 0, .int .i32 0] 27 (0, 0))) := Lib.hid (blk_below (blk_far RK6.out (show w.heap.size + 1 ≠ w.heap.size by omega) _) hb)
  have HB7 : Hid (Below w.heap.size w (w7)) := Lib.hid (on (HB6.out.setCell (Nat.le_refl _) _) hb)
  clear hb hd ST6 RK6 HB6
  have hz7 : w.heap.size + 1 < w7.heap.size := blk_lt RK7.out
  have hy7 : w.heap.size < w7.heap.size := by omega
  go_wp2_with fail
  refine (HSP.out _).mono ?_
  rintro e w8 ⟨rfl, hd⟩
  have hb := hd.below
  have ST8 : Hid ((w8).heap[w.heap.size]? = some (.cells #[.int .i64 1, .int .i64 0, .int .u32 0, .int .i32 0] 24 (0, 0))) := Lib.hid (blk_below ST7.out hb)
  have RK8 : Hid ((w8).heap[w.heap.size + 1]? = some (.cells #[.int .i64 0, .string ⟨#[]⟩, .int .i64 0, .int .i64 0, .int .u32 0, .int .i32 0] 27 (0, 0))) := Lib.hid (blk_below RK7.out hb)
  have HB8 : Hid (Below w.heap.size w (w8)) := Lib.hid (on HB7.out hb)
  clear hb hd ST7 RK7 HB7
  have hz8 : w.heap.size + 1 < w8.heap.size := blk_lt RK8.out
  have hy8 : w.heap.size < w8.heap.size := by omega
  go_wp2_with fail
  have e0 := blk_cell ST8.out 0
  have e1 := blk_cell ST8.out 1
  have e2 := blk_cell ST8.out 2
  have e3 := blk_cell ST8.out 3
  have HX : Hid (Below w8.heap.size w8 w8.drew) := Lib.hid (below_drew (Below.refl _ _))
  have RZ : Hid (w8.drew.heap[w.heap.size + 1]? = some (.cells #[.int .i64 0, .string ⟨#[]⟩, .int .i64 0, .int .i64 0, .int .u32 0, .int .i32 0] 27 (0, 0))) := Lib.hid RK8.out
  have HZ : Hid (w8.heap.size ≤ w8.drew.heap.size) := Lib.hid (Nat.le_refl _)
  have hy9 : w.heap.size < w8.heap.size := by omega
  have r0 := blk_cell RZ.out 0
  have r1 := blk_cell RZ.out 1
  have r2 := blk_cell RZ.out 2
  have r3 := blk_cell RZ.out 3
  have r4 := blk_cell RZ.out 4
  have r5 := blk_cell RZ.out 5
  have q0 := blk_frozen RZ.out 0
  have q1 := blk_frozen RZ.out 1
  have q2 := blk_frozen RZ.out 2
  have q3 := blk_frozen RZ.out 3
  have q4 := blk_frozen RZ.out 4
  have q5 := blk_frozen RZ.out 5
  have d0 : w8.drew.cell? ⟨w.heap.size, 0, none⟩ = some (.int .i64 1) := e0
  have d1 : w8.drew.cell? ⟨w.heap.size, 1, none⟩ = some (.int .i64 0) := e1
  have d2 : w8.drew.cell? ⟨w.heap.size, 2, none⟩ = some (.int .u32 0) := e2
  have d3 : w8.drew.cell? ⟨w.heap.size, 3, none⟩ = some (.int .i32 0) := e3
  clear e0 e1 e2 e3
  go_region_held3 (fun w' => w'.cell? ⟨w.heap.size, 0, none⟩ = some (.int .i64 1) ∧ w'.cell? ⟨w.heap.size, 1, none⟩ = some (.int .i64 0) ∧ w'.cell? ⟨w.heap.size, 2, none⟩ = some (.int .u32 0) ∧ w'.cell? ⟨w.heap.size, 3, none⟩ = some (.int .i32 0)) (first | (with_reducible exact ⟨d0, d1, d2, d3⟩) | (with_reducible exact ⟨a0, a1, a2, a3⟩) | go_keep) (first | (go_at_call 24; (with_reducible refine (HU1.out _).mono ?_); rintro e wa ⟨rfl, hb⟩; rw [← HS1.out]; replace RZ := Lib.hid (blk_below RZ.out hb); clear r0 r1 r2 r3 r4 r5 q0 q1 q2 q3 q4 q5; have r0 := blk_cell RZ.out 0; have r1 := blk_cell RZ.out 1; have r2 := blk_cell RZ.out 2; have r3 := blk_cell RZ.out 3; have r4 := blk_cell RZ.out 4; have r5 := blk_cell RZ.out 5; have q0 := blk_frozen RZ.out 0; have q1 := blk_frozen RZ.out 1; have q2 := blk_frozen RZ.out 2; have q3 := blk_frozen RZ.out 3; have q4 := blk_frozen RZ.out 4; have q5 := blk_frozen RZ.out 5; have hsz := hb.size; replace HX := Lib.hid (below_on HX.out HZ.out hb); have hz := HZ.out; clear HZ; have HZ : Hid (w8.heap.size ≤ wa.heap.size) := Lib.hid (Nat.le_trans hz hsz); clear hb hz hsz; have a0 : wa.cell? ⟨w.heap.size, 0, none⟩ = some (.int .i64 1) := (HX.out.cell (p := ⟨w.heap.size, 0, none⟩) hy9).trans d0; have a1 : wa.cell? ⟨w.heap.size, 1, none⟩ = some (.int .i64 0) := (HX.out.cell (p := ⟨w.heap.size, 1, none⟩) hy9).trans d1; have a2 : wa.cell? ⟨w.heap.size, 2, none⟩ = some (.int .u32 0) := (HX.out.cell (p := ⟨w.heap.size, 2, none⟩) hy9).trans d2; have a3 : wa.cell? ⟨w.heap.size, 3, none⟩ = some (.int .i32 0) := (HX.out.cell (p := ⟨w.heap.size, 3, none⟩) hy9).trans d3) | (go_at_call 24; (with_reducible refine (HU2.out _).mono ?_); rintro e wa ⟨rfl, hb⟩; rw [← HS2.out]; replace RZ := Lib.hid (blk_below RZ.out hb); clear r0 r1 r2 r3 r4 r5 q0 q1 q2 q3 q4 q5; have r0 := blk_cell RZ.out 0; have r1 := blk_cell RZ.out 1; have r2 := blk_cell RZ.out 2; have r3 := blk_cell RZ.out 3; have r4 := blk_cell RZ.out 4; have r5 := blk_cell RZ.out 5; have q0 := blk_frozen RZ.out 0; have q1 := blk_frozen RZ.out 1; have q2 := blk_frozen RZ.out 2; have q3 := blk_frozen RZ.out 3; have q4 := blk_frozen RZ.out 4; have q5 := blk_frozen RZ.out 5; have hsz := hb.size; replace HX := Lib.hid (below_on HX.out HZ.out hb); have hz := HZ.out; clear HZ; have HZ : Hid (w8.heap.size ≤ wa.heap.size) := Lib.hid (Nat.le_trans hz hsz); clear hb hz hsz; have a0 : wa.cell? ⟨w.heap.size, 0, none⟩ = some (.int .i64 1) := (HX.out.cell (p := ⟨w.heap.size, 0, none⟩) hy9).trans d0; have a1 : wa.cell? ⟨w.heap.size, 1, none⟩ = some (.int .i64 0) := (HX.out.cell (p := ⟨w.heap.size, 1, none⟩) hy9).trans d1; have a2 : wa.cell? ⟨w.heap.size, 2, none⟩ = some (.int .u32 0) := (HX.out.cell (p := ⟨w.heap.size, 2, none⟩) hy9).trans d2; have a3 : wa.cell? ⟨w.heap.size, 3, none⟩ = some (.int .i32 0) := (HX.out.cell (p := ⟨w.heap.size, 3, none⟩) hy9).trans d3) | fail)
  all_goals
    have HBZ : Hid (Below w.heap.size w wa) := Lib.hid (HB8.out.trans (HX.out.mono (by omega)))
    go_wp2_with fail
    refine bodyPost_ret (results_cell_row rfl _ _ (w.heap.size + 1) 27 _ (0, 0) _ rfl (put6 RZ.out _ _ _ _ _ _) Try.underlying27 rfl (by kernel_rfl)) rfl ?_
    exact ⟨by rw [HR.out]; rfl, below6 HBZ.out (Nat.le_succ _) _ _ _ _ _ _⟩
theorem kind_big {kind mode n : Int} {pairs marks low : Bool} (h : shp kind mode = some (n, pairs, marks, low)) (hp : n = 4 ∨ pairs = true) : (kind == 9) = false ∧ (kind == 10) = false := by
  rcases kinds h with ⟨rfl, _⟩ | ⟨rfl, _⟩ | ⟨rfl, _⟩ | ⟨rfl, _⟩ | ⟨rfl, _⟩ | ⟨rfl, _⟩ | ⟨_, h1, h2, _⟩ | ⟨_, h1, h2, _⟩
  all_goals first | exact ⟨rfl, rfl⟩ | (exfalso; rcases hp with hp | hp; omega; rw [h2] at hp; cases hp)
theorem rsetC {kind mode bits acc held u e m : Int} {b : List Int} (w : World) (h : SW kind mode bits acc held u e b m) :
    Calls Try.prog 10 #[.int .i64 kind, stV mode bits acc held, .int .i32 u] w fun en w' => en = .returned (putV e (strOfNums b) m) ∧ Below w.heap.size w w' := by
  cases h with
  | kind h => exact rset_kind kind mode bits acc held u w h
  | state n pairs marks low h hf => exact rset_state kind mode bits acc held u n pairs marks low w h hf
  | none n pairs marks low h hf hx =>
    by_cases hs : Scal u
    · obtain ⟨rfl, rfl, h6⟩ : n = 2 ∧ pairs = false ∧ 65535 < u := by
        rcases hx with hx | hx
        · exact absurd hs hx
        · exact hx
      rcases kinds h with ⟨_, _, h3, _⟩ | ⟨_, _, h3, _⟩ | ⟨_, _, h3, _⟩ | ⟨_, h2, _⟩ | ⟨_, h2, _⟩ | ⟨_, h2, _⟩ | ⟨rfl, _⟩ | ⟨rfl, _⟩
      · cases h3
      · cases h3
      · cases h3
      · omega
      · omega
      · omega
      · exact rset_none_9 mode bits acc held u 2 false marks low w h hf hs h6
      · exact rset_none_10 mode bits acc held u 2 false marks low w h hf hs h6
    · exact rset_none_sc kind mode bits acc held u n pairs marks low w h hf hs
  | one n pairs marks low h hf hs h1 hm =>
    obtain ⟨rfl, rfl, rfl, hf4⟩ := hf
    have hf : Fit marks mode 0 0 0 := ⟨rfl, rfl, rfl, hf4⟩
    rcases (shp_ok h).1 with rfl | rfl
    · exact rset_one2 kind mode u pairs marks low w h hf hm hs (by omega)
    · obtain rfl : pairs = false := by
        cases pairs
        · rfl
        · exact absurd ((shp_ok h).2 rfl) (by decide)
      rcases (show u < 65536 ∨ 65536 ≤ u by omega) with h6 | h6
      · exact rset_one4 kind mode u marks low w h hf hm hs h6
      · exact rset_one4b kind mode u marks low w h hf hm hs h6 (kind_big h (.inl rfl)).1 (kind_big h (.inl rfl)).2
  | two marks low h hf hs h6 hm =>
    obtain ⟨rfl, rfl, rfl, hf4⟩ := hf
    exact rset_two kind mode u marks low w h ⟨rfl, rfl, rfl, hf4⟩ hm hs h6 (kind_big h (.inr rfl)).1 (kind_big h (.inr rfl)).2
  | mOne n pairs low h hf hs h1 h0 =>
    subst h0
    obtain ⟨rfl, rfl, rfl, _⟩ := hf
    rcases (marked0 h).1 with ⟨rfl, rfl⟩ | ⟨rfl, rfl⟩
    · exact rset_mOne2 kind u low w h hs (by omega)
    · rcases (show u < 65536 ∨ 65536 ≤ u by omega) with h6 | h6
      · exact rset_mOne4 kind u low w h hs h6
      · exact rset_mOne4b kind u low w h hs h6 (kind_big h (.inl rfl)).1 (kind_big h (.inl rfl)).2
  | mTwo low h hf hs h6 h0 =>
    subst h0
    obtain ⟨rfl, rfl, rfl, _⟩ := hf
    exact rset_mTwo kind u low w h hs h6 (kind_big h (.inr rfl)).1 (kind_big h (.inr rfl)).2
end Go.Proofs.Ytflmpdfcbdfabaa.Wd
