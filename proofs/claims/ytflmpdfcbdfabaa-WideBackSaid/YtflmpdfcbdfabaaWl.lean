/- wide.Set, walked: a kind that is none, a state that is none, a number that has no place. -/
import Derived.Test.YtflmpdfcbdfabaaWk
namespace Go.Proofs.Ytflmpdfcbdfabaa.Wd
open Go.RowKit Go.Proofs.YtflmpdfcbdfabaaW.PrintWords Go.Proofs.YtflmpdfcbdfabaaW.PrintLast Go.Proofs.YtflmpdfcbdfabaaW.PrintMore
set_option maxHeartbeats 4000000 in
set_option maxRecDepth 100000 in
theorem set_kind (kind mode bits acc held u : Int) (w : World) (h : shp kind mode = none) :
    Calls Try.prog 9 #[.int .i64 kind, stV mode bits acc held, .int .i32 u] w fun en w' => en = .returned (putV 5 ⟨#[]⟩ 0) ∧ Below w.heap.size w w' := by
  have HK := Lib.hid h
  clear h
  unfold stV
  go_enter Try.func9, Try.ntmps9
  go_wp2_with fail
  refine (shapeC_not _ HK.out).mono ?_
  rintro e w1 ⟨rfl, hb1⟩
  rw [shV_eq]
  have ST0 : Hid ((w1).heap[w.heap.size]? = some (.cells #[.int .i64 mode, .int .i64 bits, .int .u32 acc, .int .i32 held] 24 (0, 0))) := Lib.hid (blk_below (blk_alloc (heap_alloc_new _ _) _) hb1)
  have RK0 : Hid ((w1).heap[w.heap.size + 1]? = some (.cells #[.int .i64 0, .string ⟨#[]⟩, .int .i64 0, .int .i64 0, .int .u32 0, .int .i32 0] 27 (0, 0))) := Lib.hid (blk_below (blk_second _ _ _) hb1)
  have HB0 : Hid (Below w.heap.size w (w1)) := Lib.hid (on (below_alloc (below_alloc (Below.refl _ _) _) _) hb1)
  have hg0 : w.heap.size + 1 < w1.heap.size := blk_lt RK0.out
  clear hb1
  have hg1 : w.heap.size < w1.heap.size := by omega
  have r0 := blk_cell RK0.out 0
  have r1 := blk_cell RK0.out 1
  have r2 := blk_cell RK0.out 2
  have r3 := blk_cell RK0.out 3
  have r4 := blk_cell RK0.out 4
  have r5 := blk_cell RK0.out 5
  have q0 := blk_frozen RK0.out 0
  have q1 := blk_frozen RK0.out 1
  have q2 := blk_frozen RK0.out 2
  have q3 := blk_frozen RK0.out 3
  have q4 := blk_frozen RK0.out 4
  have q5 := blk_frozen RK0.out 5
  go_wp2_with fail
  refine bodyPost_ret (results_cell_row rfl _ _ (w.heap.size + 1) 27 _ (0, 0) _ rfl (blk_alloc (put6 RK0.out _ _ _ _ _ _) _) Try.underlying27 rfl (by kernel_rfl)) rfl ?_
  exact ⟨rfl, below_alloc (below6 HB0.out (Nat.le_succ _) _ _ _ _ _ _) _⟩
set_option maxHeartbeats 4000000 in
set_option maxRecDepth 100000 in
theorem set_state (kind mode bits acc held n u : Int) (pairs marks low : Bool) (w : World) (hk : shp kind mode = some (n, pairs, marks, low)) (hf : ¬ Fit marks mode bits acc held) :
    Calls Try.prog 9 #[.int .i64 kind, stV mode bits acc held, .int .i32 u] w fun en w' => en = .returned (putV 7 ⟨#[]⟩ 0) ∧ Below w.heap.size w w' := by
  have HK := Lib.hid hk
  have HF := Lib.hid hf
  clear hk hf
  unfold stV
  go_enter Try.func9, Try.ntmps9
  go_wp2_with fail
  refine (shapeC _ HK.out).mono ?_
  rintro e w1 ⟨rfl, hb1⟩
  rw [shV_eq]
  have ST0 : Hid ((w1).heap[w.heap.size]? = some (.cells #[.int .i64 mode, .int .i64 bits, .int .u32 acc, .int .i32 held] 24 (0, 0))) := Lib.hid (blk_below (blk_alloc (heap_alloc_new _ _) _) hb1)
  have RK0 : Hid ((w1).heap[w.heap.size + 1]? = some (.cells #[.int .i64 0, .string ⟨#[]⟩, .int .i64 0, .int .i64 0, .int .u32 0, .int .i32 0] 27 (0, 0))) := Lib.hid (blk_below (blk_second _ _ _) hb1)
  have HB0 : Hid (Below w.heap.size w (w1)) := Lib.hid (on (below_alloc (below_alloc (Below.refl _ _) _) _) hb1)
  have hg0 : w.heap.size + 1 < w1.heap.size := blk_lt RK0.out
  clear hb1
  have hg1 : w.heap.size < w1.heap.size := by omega
  have e0 := blk_cell ST0.out 0
  have e1 := blk_cell ST0.out 1
  have e2 := blk_cell ST0.out 2
  have e3 := blk_cell ST0.out 3
  go_wp2_with fail
  have hc := fitsC_not n mode bits acc held pairs marks low (w1.alloc (.cells #[.int .i64 n, .bool pairs, .bool marks, .func (.func (fa low)) #[] #[], .func (.func (fb low)) #[] #[]] 48)) HF.out
  rw [shV_eq] at hc
  unfold stV at hc
  refine hc.mono ?_
  clear hc
  rintro e w2 ⟨rfl, hb2⟩
  clear e0 e1 e2 e3
  have ST1 : Hid ((w2).heap[w.heap.size]? = some (.cells #[.int .i64 mode, .int .i64 bits, .int .u32 acc, .int .i32 held] 24 (0, 0))) := Lib.hid (blk_below (blk_alloc ST0.out _) hb2)
  have RK1 : Hid ((w2).heap[w.heap.size + 1]? = some (.cells #[.int .i64 0, .string ⟨#[]⟩, .int .i64 0, .int .i64 0, .int .u32 0, .int .i32 0] 27 (0, 0))) := Lib.hid (blk_below (blk_alloc RK0.out _) hb2)
  have SK1 : Hid ((w2).heap[w1.heap.size]? = some (.cells #[.int .i64 n, .bool pairs, .bool marks, .func (.func (fa low)) #[] #[], .func (.func (fb low)) #[] #[]] 48 (0, 0))) := Lib.hid (blk_below (heap_alloc_new _ _) hb2)
  have HB1 : Hid (Below w.heap.size w (w2)) := Lib.hid (on (below_alloc HB0.out _) hb2)
  clear hb2 ST0 RK0 HB0
  have hg2 : w1.heap.size < w2.heap.size := blk_lt SK1.out
  have hg3 : w.heap.size + 1 < w2.heap.size := by omega
  have hg4 : w.heap.size < w2.heap.size := by omega
  have r0 := blk_cell RK1.out 0
  have r1 := blk_cell RK1.out 1
  have r2 := blk_cell RK1.out 2
  have r3 := blk_cell RK1.out 3
  have r4 := blk_cell RK1.out 4
  have r5 := blk_cell RK1.out 5
  have q0 := blk_frozen RK1.out 0
  have q1 := blk_frozen RK1.out 1
  have q2 := blk_frozen RK1.out 2
  have q3 := blk_frozen RK1.out 3
  have q4 := blk_frozen RK1.out 4
  have q5 := blk_frozen RK1.out 5
  go_wp2_with fail
  refine bodyPost_ret (results_cell_row rfl _ _ (w.heap.size + 1) 27 _ (0, 0) _ rfl (put6 RK1.out _ _ _ _ _ _) Try.underlying27 rfl (by kernel_rfl)) rfl ?_
  exact ⟨rfl, below6 HB1.out (Nat.le_succ _) _ _ _ _ _ _⟩
set_option maxHeartbeats 4000000 in
set_option maxRecDepth 100000 in
theorem set_none_sc (kind mode bits acc held u : Int) (n : Int) (pairs marks low : Bool) (w : World) (hk : shp kind mode = some (n, pairs, marks, low)) (hf : Fit marks mode bits acc held) (hs : ¬ Scal u) :
    Calls Try.prog 9 #[.int .i64 kind, stV mode bits acc held, .int .i32 u] w fun en w' => en = .returned (putV 11 ⟨#[]⟩ 0) ∧ Below w.heap.size w w' := by
  have HK := Lib.hid hk
  have HF := Lib.hid hf
  clear hk hf
  have HS : Hid (decide (Scal u) = false) := Lib.hid (decide_eq_false hs)
  clear hs
  unfold stV
  go_enter Try.func9, Try.ntmps9
  go_wp2_with fail
  refine (shapeC _ HK.out).mono ?_
  rintro e w1 ⟨rfl, hb1⟩
  rw [shV_eq]
  have ST0 : Hid ((w1).heap[w.heap.size]? = some (.cells #[.int .i64 mode, .int .i64 bits, .int .u32 acc, .int .i32 held] 24 (0, 0))) := Lib.hid (blk_below (blk_alloc (heap_alloc_new _ _) _) hb1)
  have RK0 : Hid ((w1).heap[w.heap.size + 1]? = some (.cells #[.int .i64 0, .string ⟨#[]⟩, .int .i64 0, .int .i64 0, .int .u32 0, .int .i32 0] 27 (0, 0))) := Lib.hid (blk_below (blk_second _ _ _) hb1)
  have HB0 : Hid (Below w.heap.size w (w1)) := Lib.hid (on (below_alloc (below_alloc (Below.refl _ _) _) _) hb1)
  have hg0 : w.heap.size + 1 < w1.heap.size := blk_lt RK0.out
  clear hb1
  have hg1 : w.heap.size < w1.heap.size := by omega
  have e0 := blk_cell ST0.out 0
  have e1 := blk_cell ST0.out 1
  have e2 := blk_cell ST0.out 2
  have e3 := blk_cell ST0.out 3
  go_wp2_with fail
  have hc := fitsC n mode bits acc held pairs marks low (w1.alloc (.cells #[.int .i64 n, .bool pairs, .bool marks, .func (.func (fa low)) #[] #[], .func (.func (fb low)) #[] #[]] 48)) HF.out
  rw [shV_eq] at hc
  unfold stV at hc
  refine hc.mono ?_
  clear hc
  rintro e w2 ⟨rfl, hb2⟩
  clear e0 e1 e2 e3
  have ST1 : Hid ((w2).heap[w.heap.size]? = some (.cells #[.int .i64 mode, .int .i64 bits, .int .u32 acc, .int .i32 held] 24 (0, 0))) := Lib.hid (blk_below (blk_alloc ST0.out _) hb2)
  have RK1 : Hid ((w2).heap[w.heap.size + 1]? = some (.cells #[.int .i64 0, .string ⟨#[]⟩, .int .i64 0, .int .i64 0, .int .u32 0, .int .i32 0] 27 (0, 0))) := Lib.hid (blk_below (blk_alloc RK0.out _) hb2)
  have SK1 : Hid ((w2).heap[w1.heap.size]? = some (.cells #[.int .i64 n, .bool pairs, .bool marks, .func (.func (fa low)) #[] #[], .func (.func (fb low)) #[] #[]] 48 (0, 0))) := Lib.hid (blk_below (heap_alloc_new _ _) hb2)
  have HB1 : Hid (Below w.heap.size w (w2)) := Lib.hid (on (below_alloc HB0.out _) hb2)
  clear hb2 ST0 RK0 HB0
  have hg2 : w1.heap.size < w2.heap.size := blk_lt SK1.out
  have hg3 : w.heap.size + 1 < w2.heap.size := by omega
  have hg4 : w.heap.size < w2.heap.size := by omega
  have s0 := blk_cell SK1.out 0
  have s1 := blk_cell SK1.out 1
  have s2 := blk_cell SK1.out 2
  have s3 := blk_cell SK1.out 3
  have s4 := blk_cell SK1.out 4
  go_wp2_with fail
  refine (scalarC u _).mono ?_
  rintro e w3 ⟨rfl, hd3⟩
  rw [HS.out]
  clear s0 s1 s2 s3 s4
  have hb3 := hd3.below
  have RK2 : Hid ((w3).heap[w.heap.size + 1]? = some (.cells #[.int .i64 0, .string ⟨#[]⟩, .int .i64 0, .int .i64 0, .int .u32 0, .int .i32 0] 27 (0, 0))) := Lib.hid (blk_below RK1.out hb3)
  have SK2 : Hid ((w3).heap[w1.heap.size]? = some (.cells #[.int .i64 n, .bool pairs, .bool marks, .func (.func (fa low)) #[] #[], .func (.func (fb low)) #[] #[]] 48 (0, 0))) := Lib.hid (blk_below SK1.out hb3)
  have HB2 : Hid (Below w.heap.size w (w3)) := Lib.hid (on HB1.out hb3)
  clear hb3 hd3 ST1 RK1 SK1 HB1
  have hg5 : w1.heap.size < w3.heap.size := blk_lt SK2.out
  have hg6 : w.heap.size + 1 < w3.heap.size := by omega
  have s0 := blk_cell SK2.out 0
  have s1 := blk_cell SK2.out 1
  have s2 := blk_cell SK2.out 2
  have s3 := blk_cell SK2.out 3
  have s4 := blk_cell SK2.out 4
  have r0 := blk_cell RK2.out 0
  have r1 := blk_cell RK2.out 1
  have r2 := blk_cell RK2.out 2
  have r3 := blk_cell RK2.out 3
  have r4 := blk_cell RK2.out 4
  have r5 := blk_cell RK2.out 5
  have q0 := blk_frozen RK2.out 0
  have q1 := blk_frozen RK2.out 1
  have q2 := blk_frozen RK2.out 2
  have q3 := blk_frozen RK2.out 3
  have q4 := blk_frozen RK2.out 4
  have q5 := blk_frozen RK2.out 5
  go_wp2_with fail
  refine bodyPost_ret (results_cell_row rfl _ _ (w.heap.size + 1) 27 _ (0, 0) _ rfl (put6 RK2.out _ _ _ _ _ _) Try.underlying27 rfl (by kernel_rfl)) rfl ?_
  exact ⟨rfl, below6 HB2.out (Nat.le_succ _) _ _ _ _ _ _⟩
set_option maxHeartbeats 4000000 in
set_option maxRecDepth 100000 in
theorem set_none_two (kind mode bits acc held u : Int) (marks low : Bool) (w : World) (hk : shp kind mode = some (2, false, marks, low)) (hf : Fit marks mode bits acc held) (hs : Scal u) (hu : 65535 < u) :
    Calls Try.prog 9 #[.int .i64 kind, stV mode bits acc held, .int .i32 u] w fun en w' => en = .returned (putV 11 ⟨#[]⟩ 0) ∧ Below w.heap.size w w' := by
  have HK := Lib.hid hk
  have HF := Lib.hid hf
  clear hk hf
  have HS : Hid (decide (Scal u) = true) := Lib.hid (decide_eq_true hs)
  clear hs
  unfold stV
  go_enter Try.func9, Try.ntmps9
  go_wp2_with fail
  refine (shapeC _ HK.out).mono ?_
  rintro e w1 ⟨rfl, hb1⟩
  rw [shV_eq]
  have ST0 : Hid ((w1).heap[w.heap.size]? = some (.cells #[.int .i64 mode, .int .i64 bits, .int .u32 acc, .int .i32 held] 24 (0, 0))) := Lib.hid (blk_below (blk_alloc (heap_alloc_new _ _) _) hb1)
  have RK0 : Hid ((w1).heap[w.heap.size + 1]? = some (.cells #[.int .i64 0, .string ⟨#[]⟩, .int .i64 0, .int .i64 0, .int .u32 0, .int .i32 0] 27 (0, 0))) := Lib.hid (blk_below (blk_second _ _ _) hb1)
  have HB0 : Hid (Below w.heap.size w (w1)) := Lib.hid (on (below_alloc (below_alloc (Below.refl _ _) _) _) hb1)
  have hg0 : w.heap.size + 1 < w1.heap.size := blk_lt RK0.out
  clear hb1
  have hg1 : w.heap.size < w1.heap.size := by omega
  have e0 := blk_cell ST0.out 0
  have e1 := blk_cell ST0.out 1
  have e2 := blk_cell ST0.out 2
  have e3 := blk_cell ST0.out 3
  go_wp2_with fail
  have hc := fitsC 2 mode bits acc held false marks low (w1.alloc (.cells #[.int .i64 2, .bool false, .bool marks, .func (.func (fa low)) #[] #[], .func (.func (fb low)) #[] #[]] 48)) HF.out
  rw [shV_eq] at hc
  unfold stV at hc
  refine hc.mono ?_
  clear hc
  rintro e w2 ⟨rfl, hb2⟩
  clear e0 e1 e2 e3
  have ST1 : Hid ((w2).heap[w.heap.size]? = some (.cells #[.int .i64 mode, .int .i64 bits, .int .u32 acc, .int .i32 held] 24 (0, 0))) := Lib.hid (blk_below (blk_alloc ST0.out _) hb2)
  have RK1 : Hid ((w2).heap[w.heap.size + 1]? = some (.cells #[.int .i64 0, .string ⟨#[]⟩, .int .i64 0, .int .i64 0, .int .u32 0, .int .i32 0] 27 (0, 0))) := Lib.hid (blk_below (blk_alloc RK0.out _) hb2)
  have SK1 : Hid ((w2).heap[w1.heap.size]? = some (.cells #[.int .i64 2, .bool false, .bool marks, .func (.func (fa low)) #[] #[], .func (.func (fb low)) #[] #[]] 48 (0, 0))) := Lib.hid (blk_below (heap_alloc_new _ _) hb2)
  have HB1 : Hid (Below w.heap.size w (w2)) := Lib.hid (on (below_alloc HB0.out _) hb2)
  clear hb2 ST0 RK0 HB0
  have hg2 : w1.heap.size < w2.heap.size := blk_lt SK1.out
  have hg3 : w.heap.size + 1 < w2.heap.size := by omega
  have hg4 : w.heap.size < w2.heap.size := by omega
  have s0 := blk_cell SK1.out 0
  have s1 := blk_cell SK1.out 1
  have s2 := blk_cell SK1.out 2
  have s3 := blk_cell SK1.out 3
  have s4 := blk_cell SK1.out 4
  go_wp2_with fail
  refine (scalarC u _).mono ?_
  rintro e w3 ⟨rfl, hd3⟩
  rw [HS.out]
  clear s0 s1 s2 s3 s4
  have hb3 := hd3.below
  have RK2 : Hid ((w3).heap[w.heap.size + 1]? = some (.cells #[.int .i64 0, .string ⟨#[]⟩, .int .i64 0, .int .i64 0, .int .u32 0, .int .i32 0] 27 (0, 0))) := Lib.hid (blk_below RK1.out hb3)
  have SK2 : Hid ((w3).heap[w1.heap.size]? = some (.cells #[.int .i64 2, .bool false, .bool marks, .func (.func (fa low)) #[] #[], .func (.func (fb low)) #[] #[]] 48 (0, 0))) := Lib.hid (blk_below SK1.out hb3)
  have HB2 : Hid (Below w.heap.size w (w3)) := Lib.hid (on HB1.out hb3)
  clear hb3 hd3 ST1 RK1 SK1 HB1
  have hg5 : w1.heap.size < w3.heap.size := blk_lt SK2.out
  have hg6 : w.heap.size + 1 < w3.heap.size := by omega
  have s0 := blk_cell SK2.out 0
  have s1 := blk_cell SK2.out 1
  have s2 := blk_cell SK2.out 2
  have s3 := blk_cell SK2.out 3
  have s4 := blk_cell SK2.out 4
  have r0 := blk_cell RK2.out 0
  have r1 := blk_cell RK2.out 1
  have r2 := blk_cell RK2.out 2
  have r3 := blk_cell RK2.out 3
  have r4 := blk_cell RK2.out 4
  have r5 := blk_cell RK2.out 5
  have q0 := blk_frozen RK2.out 0
  have q1 := blk_frozen RK2.out 1
  have q2 := blk_frozen RK2.out 2
  have q3 := blk_frozen RK2.out 3
  have q4 := blk_frozen RK2.out 4
  have q5 := blk_frozen RK2.out 5
  go_wp2_with fail
  refine bodyPost_ret (results_cell_row rfl _ _ (w.heap.size + 1) 27 _ (0, 0) _ rfl (put6 RK2.out _ _ _ _ _ _) Try.underlying27 rfl (by kernel_rfl)) rfl ?_
  exact ⟨rfl, below6 HB2.out (Nat.le_succ _) _ _ _ _ _ _⟩
end Go.Proofs.Ytflmpdfcbdfabaa.Wd
