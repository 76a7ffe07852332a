/- wide.Get, walked: a kind with a mark, at the front. -/
import Derived.Test.YtflmpdfcbdfabaaWi
import Derived.LoopN
namespace Go.Proofs.Ytflmpdfcbdfabaa.Wd
open Go.RowKit Go.Proofs.YtflmpdfcbdfabaaW.PrintWords Go.Proofs.YtflmpdfcbdfabaaW.PrintLast Go.Proofs.YtflmpdfcbdfabaaW.PrintMore
set_option maxHeartbeats 2000000 in
set_option maxRecDepth 100000 in
theorem get_markB (kind : Int) (m : Nat) (pairs low : Bool) (A : Option Addr) (c : Nat) (l : List Int) (w : World) (hk : shp kind 0 = some ((m : Int), pairs, true, low)) (hf : Fit true 0 0 0 0) (hC : Kd.C (Kd.int .u8) w A l.length l) (hc : l.length ≤ c) (hb : ∀ x ∈ l, Byte x) (hl : m ≤ l.length) (hxB : num false (l.take m) = 65279) :
    Calls Try.prog 11 #[.int .i64 kind, stV 0 0 0 0, .slice A l.length c] w fun en w' => en = .returned (gotV 0 m 0 0 1) ∧ Below w.heap.size w w' := by
  have hm24 := (shp_ok hk).1
  have hm4 : m ≤ 4 := by omega
  obtain ⟨hsl, hnb⟩ := numAt false A c m l w hC hc hb hm4 hl
  obtain ⟨_, hnl⟩ := numAt true A c m l w hC hc hb hm4 hl
  have HNB := Lib.hid hnb
  have HNL := Lib.hid hnl
  change Hid (∀ W : World, Below w.heap.size w W → Calls Try.prog 34 #[.slice A m c] W fun e w' => e = .returned (.int .u32 (num false (l.take m))) ∧ w' = W) at HNB
  change Hid (∀ W : World, Below w.heap.size w W → Calls Try.prog 36 #[.slice A m c] W fun e w' => e = .returned (.int .u32 (num true (l.take m))) ∧ w' = W) at HNL
  clear hnb hnl
  rw [hxB] at HNB
  clear hxB HNL
  have HK := Lib.hid hk
  have HF := Lib.hid hf
  have HC := Lib.hid hC
  have Hc := Lib.hid hc
  have Hb := Lib.hid hb
  have Hn := Lib.hid (shp_ok hk)
  clear hk hf hC hc hb hm24 hm4
  have hl' : (m : Int) ≤ (l.length : Int) := by omega
  unfold stV
  go_enter Try.func11, Try.ntmps11
  go_wp2_with fail
  refine (shapeC _ HK.out).mono ?_
  rintro e w1 ⟨rfl, hb1⟩
  rw [shV_eq]
  have ST0 : Hid (w1.heap[w.heap.size]? = some (.cells #[.int .i64 0, .int .i64 0, .int .u32 0, .int .i32 0] 24 (0, 0))) := Lib.hid (blk_below (blk_alloc (heap_alloc_new _ _) _) hb1)
  have RK0 : Hid (w1.heap[w.heap.size + 1]? = some (.cells #[.int .i64 0, .int .i64 0, .int .i64 0, .int .i32 0, .int .i32 0, .int .i64 0, .int .i64 0, .int .u32 0, .int .i32 0] 32 (0, 0))) := Lib.hid (blk_below (blk_second _ _ _) hb1)
  have HB0 : Hid (Below w.heap.size w w1) := Lib.hid (on (below_alloc (below_alloc (Below.refl _ _) _) _) hb1)
  have hg0 : w.heap.size + 1 < w1.heap.size := blk_lt RK0.out
  clear hb1
  have hg1 : w.heap.size < w1.heap.size := by omega
  have e0 := blk_cell ST0.out 0
  have e1 := blk_cell ST0.out 1
  have e2 := blk_cell ST0.out 2
  have e3 := blk_cell ST0.out 3
  go_wp2_with fail
  have hc := fitsC m 0 0 0 0 pairs true low (w1.alloc (.cells #[.int .i64 (m : Int), .bool pairs, .bool true, .func (.func (fa low)) #[] #[], .func (.func (fb low)) #[] #[]] 48)) HF.out
  rw [shV_eq] at hc
  unfold stV at hc
  refine hc.mono ?_
  clear hc
  rintro e w2 ⟨rfl, hb2⟩
  clear e0 e1 e2 e3
  have ST1 : Hid ((w2).heap[w.heap.size]? = some (.cells #[.int .i64 0, .int .i64 0, .int .u32 0, .int .i32 0] 24 (0, 0))) := Lib.hid (blk_below (blk_alloc ST0.out _) hb2)
  have RK1 : Hid ((w2).heap[w.heap.size + 1]? = some (.cells #[.int .i64 0, .int .i64 0, .int .i64 0, .int .i32 0, .int .i32 0, .int .i64 0, .int .i64 0, .int .u32 0, .int .i32 0] 32 (0, 0))) := Lib.hid (blk_below (blk_alloc RK0.out _) hb2)
  have SK1 : Hid ((w2).heap[w1.heap.size]? = some (.cells #[.int .i64 (m : Int), .bool pairs, .bool true, .func (.func (fa low)) #[] #[], .func (.func (fb low)) #[] #[]] 48 (0, 0))) := Lib.hid (blk_below (heap_alloc_new _ _) hb2)
  have HB1 : Hid (Below w.heap.size w (w2)) := Lib.hid (on (below_alloc HB0.out _) hb2)
  clear hb2
  have e0 := blk_cell ST1.out 0
  have e1 := blk_cell ST1.out 1
  have e2 := blk_cell ST1.out 2
  have e3 := blk_cell ST1.out 3
  have s0 := blk_cell SK1.out 0
  have s1 := blk_cell SK1.out 1
  have s2 := blk_cell SK1.out 2
  have s3 := blk_cell SK1.out 3
  have s4 := blk_cell SK1.out 4
  have hg2 : w1.heap.size < w2.heap.size := blk_lt SK1.out
  go_wp2_with fail
  refine (bigC _).mono ?_
  rintro en w3 ⟨rfl, hb3⟩
  clear e0 e1 e2 e3 s0 s1 s2 s3 s4
  have ST2 : Hid ((w3).heap[w.heap.size]? = some (.cells #[.int .i64 0, .int .i64 0, .int .u32 0, .int .i32 0] 24 (0, 0))) := Lib.hid (blk_below ST1.out hb3)
  have RK2 : Hid ((w3).heap[w.heap.size + 1]? = some (.cells #[.int .i64 0, .int .i64 0, .int .i64 0, .int .i32 0, .int .i32 0, .int .i64 0, .int .i64 0, .int .u32 0, .int .i32 0] 32 (0, 0))) := Lib.hid (blk_below RK1.out hb3)
  have SK2 : Hid ((w3).heap[w1.heap.size]? = some (.cells #[.int .i64 (m : Int), .bool pairs, .bool true, .func (.func (fa low)) #[] #[], .func (.func (fb low)) #[] #[]] 48 (0, 0))) := Lib.hid (blk_below SK1.out hb3)
  have HB2 : Hid (Below w.heap.size w (w3)) := Lib.hid (on HB1.out hb3)
  clear ST1 RK1 SK1 HB1
  clear hb3
  go_wp2_with fail
  refine (littleC _).mono ?_
  rintro en w4 ⟨rfl, hb4⟩
  have ST3 : Hid ((w4).heap[w.heap.size]? = some (.cells #[.int .i64 0, .int .i64 0, .int .u32 0, .int .i32 0] 24 (0, 0))) := Lib.hid (blk_below ST2.out hb4)
  have RK3 : Hid ((w4).heap[w.heap.size + 1]? = some (.cells #[.int .i64 0, .int .i64 0, .int .i64 0, .int .i32 0, .int .i32 0, .int .i64 0, .int .i64 0, .int .u32 0, .int .i32 0] 32 (0, 0))) := Lib.hid (blk_below RK2.out hb4)
  have SK3 : Hid ((w4).heap[w1.heap.size]? = some (.cells #[.int .i64 (m : Int), .bool pairs, .bool true, .func (.func (fa low)) #[] #[], .func (.func (fb low)) #[] #[]] 48 (0, 0))) := Lib.hid (blk_below SK2.out hb4)
  have HB3 : Hid (Below w.heap.size w (w4)) := Lib.hid (on HB2.out hb4)
  clear ST2 RK2 SK2 HB2
  clear hb4
  go_wp2_with fail
  refine wp_loop_rounds 3 ?_
  rw [rounds_succ]
  go_wp2_with fail
  have ST4 : Hid (((w4.alloc (.cells #[.func (.func 34) #[] #[], .func (.func 35) #[] #[], .func (.func 36) #[] #[], .func (.func 37) #[] #[]] 46)).alloc (.cells #[.func (.func 34) #[] #[], .func (.func 35) #[] #[]] 46)).heap[w.heap.size]? = some (.cells #[.int .i64 0, .int .i64 0, .int .u32 0, .int .i32 0] 24 (0, 0))) := Lib.hid (blk_alloc (blk_alloc ST3.out _) _)
  have RK4 : Hid (((w4.alloc (.cells #[.func (.func 34) #[] #[], .func (.func 35) #[] #[], .func (.func 36) #[] #[], .func (.func 37) #[] #[]] 46)).alloc (.cells #[.func (.func 34) #[] #[], .func (.func 35) #[] #[]] 46)).heap[w.heap.size + 1]? = some (.cells #[.int .i64 0, .int .i64 0, .int .i64 0, .int .i32 0, .int .i32 0, .int .i64 0, .int .i64 0, .int .u32 0, .int .i32 0] 32 (0, 0))) := Lib.hid (blk_alloc (blk_alloc RK3.out _) _)
  have SK4 : Hid (((w4.alloc (.cells #[.func (.func 34) #[] #[], .func (.func 35) #[] #[], .func (.func 36) #[] #[], .func (.func 37) #[] #[]] 46)).alloc (.cells #[.func (.func 34) #[] #[], .func (.func 35) #[] #[]] 46)).heap[w1.heap.size]? = some (.cells #[.int .i64 (m : Int), .bool pairs, .bool true, .func (.func (fa low)) #[] #[], .func (.func (fb low)) #[] #[]] 48 (0, 0))) := Lib.hid (blk_alloc (blk_alloc SK3.out _) _)
  have OK4 : Hid (((w4.alloc (.cells #[.func (.func 34) #[] #[], .func (.func 35) #[] #[], .func (.func 36) #[] #[], .func (.func 37) #[] #[]] 46)).alloc (.cells #[.func (.func 34) #[] #[], .func (.func 35) #[] #[]] 46)).heap[w4.heap.size]? = some (.cells #[.func (.func 34) #[] #[], .func (.func 35) #[] #[], .func (.func 36) #[] #[], .func (.func 37) #[] #[]] 46 (0, 0))) := Lib.hid (blk_alloc (heap_alloc_new _ _) _)
  have PK4 : Hid (((w4.alloc (.cells #[.func (.func 34) #[] #[], .func (.func 35) #[] #[], .func (.func 36) #[] #[], .func (.func 37) #[] #[]] 46)).alloc (.cells #[.func (.func 34) #[] #[], .func (.func 35) #[] #[]] 46)).heap[w4.heap.size + 1]? = some (.cells #[.func (.func 34) #[] #[], .func (.func 35) #[] #[]] 46 (0, 0))) := Lib.hid (blk_second _ _ _)
  have HB4 : Hid (Below w.heap.size w ((w4.alloc (.cells #[.func (.func 34) #[] #[], .func (.func 35) #[] #[], .func (.func 36) #[] #[], .func (.func 37) #[] #[]] 46)).alloc (.cells #[.func (.func 34) #[] #[], .func (.func 35) #[] #[]] 46))) := Lib.hid (below_alloc (below_alloc HB3.out _) _)
  generalize (w4.alloc (.cells #[.func (.func 34) #[] #[], .func (.func 35) #[] #[], .func (.func 36) #[] #[], .func (.func 37) #[] #[]] 46)).alloc (.cells #[.func (.func 34) #[] #[], .func (.func 35) #[] #[]] 46) = W5 at *
  clear ST3 RK3 SK3 HB3
  have s0 := blk_cell SK4.out 0
  have s1 := blk_cell SK4.out 1
  have s2 := blk_cell SK4.out 2
  have s3 := blk_cell SK4.out 3
  have s4 := blk_cell SK4.out 4
  have p0 := blk_cell PK4.out 0
  have p1 := blk_cell PK4.out 1
  go_quiet ((go_at_call 34; exact Calls.quiet_of_same (HNB.out _ (pw_below_drewN HB4.out _))))
  clear s0 s1 s2 s3 s4 p0 p1
  have ST5 : Hid ((W5.drewN nq).heap[w.heap.size]? = some (.cells #[.int .i64 0, .int .i64 0, .int .u32 0, .int .i32 0] 24 (0, 0))) := Lib.hid (blk_drewN ST4.out _)
  have RK5 : Hid ((W5.drewN nq).heap[w.heap.size + 1]? = some (.cells #[.int .i64 0, .int .i64 0, .int .i64 0, .int .i32 0, .int .i32 0, .int .i64 0, .int .i64 0, .int .u32 0, .int .i32 0] 32 (0, 0))) := Lib.hid (blk_drewN RK4.out _)
  have SK5 : Hid ((W5.drewN nq).heap[w1.heap.size]? = some (.cells #[.int .i64 (m : Int), .bool pairs, .bool true, .func (.func (fa low)) #[] #[], .func (.func (fb low)) #[] #[]] 48 (0, 0))) := Lib.hid (blk_drewN SK4.out _)
  have OK5 : Hid ((W5.drewN nq).heap[w4.heap.size]? = some (.cells #[.func (.func 34) #[] #[], .func (.func 35) #[] #[], .func (.func 36) #[] #[], .func (.func 37) #[] #[]] 46 (0, 0))) := Lib.hid (blk_drewN OK4.out _)
  have HB5 : Hid (Below w.heap.size w (W5.drewN nq)) := Lib.hid (pw_below_drewN HB4.out _)
  generalize W5.drewN nq = W6 at *
  clear ST4 RK4 SK4 OK4 HB4
  have s0 := blk_cell SK5.out 0
  have s1 := blk_cell SK5.out 1
  have s2 := blk_cell SK5.out 2
  have s3 := blk_cell SK5.out 3
  have s4 := blk_cell SK5.out 4
  have r0 := blk_cell RK5.out 0
  have r1 := blk_cell RK5.out 1
  have r2 := blk_cell RK5.out 2
  have r3 := blk_cell RK5.out 3
  have r4 := blk_cell RK5.out 4
  have r5 := blk_cell RK5.out 5
  have r6 := blk_cell RK5.out 6
  have r7 := blk_cell RK5.out 7
  have r8 := blk_cell RK5.out 8
  have q0 := blk_frozen RK5.out 0
  have q1 := blk_frozen RK5.out 1
  have q2 := blk_frozen RK5.out 2
  have q3 := blk_frozen RK5.out 3
  have q4 := blk_frozen RK5.out 4
  have q5 := blk_frozen RK5.out 5
  have q6 := blk_frozen RK5.out 6
  have q7 := blk_frozen RK5.out 7
  have q8 := blk_frozen RK5.out 8
  go_wp2_with fail
  refine bodyPost_ret (results_cell_row rfl _ _ (w.heap.size + 1) 32 _ (0, 0) _ rfl (put9 RK5.out _ _ _ _ _ _ _ _ _) Try.underlying32 rfl (by kernel_rfl)) rfl ?_
  exact ⟨rfl, below9 HB5.out (Nat.le_succ _) _ _ _ _ _ _ _ _ _⟩
set_option maxHeartbeats 2000000 in
set_option maxRecDepth 100000 in
theorem get_markL (kind : Int) (m : Nat) (pairs low : Bool) (A : Option Addr) (c : Nat) (l : List Int) (w : World) (hk : shp kind 0 = some ((m : Int), pairs, true, low)) (hf : Fit true 0 0 0 0) (hC : Kd.C (Kd.int .u8) w A l.length l) (hc : l.length ≤ c) (hb : ∀ x ∈ l, Byte x) (hl : m ≤ l.length) (hxB : num false (l.take m) ≠ 65279) (hxL : num true (l.take m) = 65279) :
    Calls Try.prog 11 #[.int .i64 kind, stV 0 0 0 0, .slice A l.length c] w fun en w' => en = .returned (gotV 0 m 0 0 2) ∧ Below w.heap.size w w' := by
  have hm24 := (shp_ok hk).1
  have hm4 : m ≤ 4 := by omega
  obtain ⟨hsl, hnb⟩ := numAt false A c m l w hC hc hb hm4 hl
  obtain ⟨_, hnl⟩ := numAt true A c m l w hC hc hb hm4 hl
  have HNB := Lib.hid hnb
  have HNL := Lib.hid hnl
  change Hid (∀ W : World, Below w.heap.size w W → Calls Try.prog 34 #[.slice A m c] W fun e w' => e = .returned (.int .u32 (num false (l.take m))) ∧ w' = W) at HNB
  change Hid (∀ W : World, Below w.heap.size w W → Calls Try.prog 36 #[.slice A m c] W fun e w' => e = .returned (.int .u32 (num true (l.take m))) ∧ w' = W) at HNL
  clear hnb hnl
  have x1 : ((num false (l.take m) : Int) == 65279) = false := beq_eq_false_iff_ne.2 hxB
  clear hxB
  rw [hxL] at HNL
  clear hxL
  generalize num false (l.take m) = xB at *
  have HK := Lib.hid hk
  have HF := Lib.hid hf
  have HC := Lib.hid hC
  have Hc := Lib.hid hc
  have Hb := Lib.hid hb
  have Hn := Lib.hid (shp_ok hk)
  clear hk hf hC hc hb hm24 hm4
  have hl' : (m : Int) ≤ (l.length : Int) := by omega
  unfold stV
  go_enter Try.func11, Try.ntmps11
  go_wp2_with fail
  refine (shapeC _ HK.out).mono ?_
  rintro e w1 ⟨rfl, hb1⟩
  rw [shV_eq]
  have ST0 : Hid (w1.heap[w.heap.size]? = some (.cells #[.int .i64 0, .int .i64 0, .int .u32 0, .int .i32 0] 24 (0, 0))) := Lib.hid (blk_below (blk_alloc (heap_alloc_new _ _) _) hb1)
  have RK0 : Hid (w1.heap[w.heap.size + 1]? = some (.cells #[.int .i64 0, .int .i64 0, .int .i64 0, .int .i32 0, .int .i32 0, .int .i64 0, .int .i64 0, .int .u32 0, .int .i32 0] 32 (0, 0))) := Lib.hid (blk_below (blk_second _ _ _) hb1)
  have HB0 : Hid (Below w.heap.size w w1) := Lib.hid (on (below_alloc (below_alloc (Below.refl _ _) _) _) hb1)
  have hg0 : w.heap.size + 1 < w1.heap.size := blk_lt RK0.out
  clear hb1
  have hg1 : w.heap.size < w1.heap.size := by omega
  have e0 := blk_cell ST0.out 0
  have e1 := blk_cell ST0.out 1
  have e2 := blk_cell ST0.out 2
  have e3 := blk_cell ST0.out 3
  go_wp2_with fail
  have hc := fitsC m 0 0 0 0 pairs true low (w1.alloc (.cells #[.int .i64 (m : Int), .bool pairs, .bool true, .func (.func (fa low)) #[] #[], .func (.func (fb low)) #[] #[]] 48)) HF.out
  rw [shV_eq] at hc
  unfold stV at hc
  refine hc.mono ?_
  clear hc
  rintro e w2 ⟨rfl, hb2⟩
  clear e0 e1 e2 e3
  have ST1 : Hid ((w2).heap[w.heap.size]? = some (.cells #[.int .i64 0, .int .i64 0, .int .u32 0, .int .i32 0] 24 (0, 0))) := Lib.hid (blk_below (blk_alloc ST0.out _) hb2)
  have RK1 : Hid ((w2).heap[w.heap.size + 1]? = some (.cells #[.int .i64 0, .int .i64 0, .int .i64 0, .int .i32 0, .int .i32 0, .int .i64 0, .int .i64 0, .int .u32 0, .int .i32 0] 32 (0, 0))) := Lib.hid (blk_below (blk_alloc RK0.out _) hb2)
  have SK1 : Hid ((w2).heap[w1.heap.size]? = some (.cells #[.int .i64 (m : Int), .bool pairs, .bool true, .func (.func (fa low)) #[] #[], .func (.func (fb low)) #[] #[]] 48 (0, 0))) := Lib.hid (blk_below (heap_alloc_new _ _) hb2)
  have HB1 : Hid (Below w.heap.size w (w2)) := Lib.hid (on (below_alloc HB0.out _) hb2)
  clear hb2
  have e0 := blk_cell ST1.out 0
  have e1 := blk_cell ST1.out 1
  have e2 := blk_cell ST1.out 2
  have e3 := blk_cell ST1.out 3
  have s0 := blk_cell SK1.out 0
  have s1 := blk_cell SK1.out 1
  have s2 := blk_cell SK1.out 2
  have s3 := blk_cell SK1.out 3
  have s4 := blk_cell SK1.out 4
  have hg2 : w1.heap.size < w2.heap.size := blk_lt SK1.out
  go_wp2_with fail
  refine (bigC _).mono ?_
  rintro en w3 ⟨rfl, hb3⟩
  clear e0 e1 e2 e3 s0 s1 s2 s3 s4
  have ST2 : Hid ((w3).heap[w.heap.size]? = some (.cells #[.int .i64 0, .int .i64 0, .int .u32 0, .int .i32 0] 24 (0, 0))) := Lib.hid (blk_below ST1.out hb3)
  have RK2 : Hid ((w3).heap[w.heap.size + 1]? = some (.cells #[.int .i64 0, .int .i64 0, .int .i64 0, .int .i32 0, .int .i32 0, .int .i64 0, .int .i64 0, .int .u32 0, .int .i32 0] 32 (0, 0))) := Lib.hid (blk_below RK1.out hb3)
  have SK2 : Hid ((w3).heap[w1.heap.size]? = some (.cells #[.int .i64 (m : Int), .bool pairs, .bool true, .func (.func (fa low)) #[] #[], .func (.func (fb low)) #[] #[]] 48 (0, 0))) := Lib.hid (blk_below SK1.out hb3)
  have HB2 : Hid (Below w.heap.size w (w3)) := Lib.hid (on HB1.out hb3)
  clear ST1 RK1 SK1 HB1
  clear hb3
  go_wp2_with fail
  refine (littleC _).mono ?_
  rintro en w4 ⟨rfl, hb4⟩
  have ST3 : Hid ((w4).heap[w.heap.size]? = some (.cells #[.int .i64 0, .int .i64 0, .int .u32 0, .int .i32 0] 24 (0, 0))) := Lib.hid (blk_below ST2.out hb4)
  have RK3 : Hid ((w4).heap[w.heap.size + 1]? = some (.cells #[.int .i64 0, .int .i64 0, .int .i64 0, .int .i32 0, .int .i32 0, .int .i64 0, .int .i64 0, .int .u32 0, .int .i32 0] 32 (0, 0))) := Lib.hid (blk_below RK2.out hb4)
  have SK3 : Hid ((w4).heap[w1.heap.size]? = some (.cells #[.int .i64 (m : Int), .bool pairs, .bool true, .func (.func (fa low)) #[] #[], .func (.func (fb low)) #[] #[]] 48 (0, 0))) := Lib.hid (blk_below SK2.out hb4)
  have HB3 : Hid (Below w.heap.size w (w4)) := Lib.hid (on HB2.out hb4)
  clear ST2 RK2 SK2 HB2
  clear hb4
  go_wp2_with fail
  refine wp_loop_rounds 3 ?_
  rw [rounds_succ]
  go_wp2_with fail
  have ST4 : Hid (((w4.alloc (.cells #[.func (.func 34) #[] #[], .func (.func 35) #[] #[], .func (.func 36) #[] #[], .func (.func 37) #[] #[]] 46)).alloc (.cells #[.func (.func 34) #[] #[], .func (.func 35) #[] #[]] 46)).heap[w.heap.size]? = some (.cells #[.int .i64 0, .int .i64 0, .int .u32 0, .int .i32 0] 24 (0, 0))) := Lib.hid (blk_alloc (blk_alloc ST3.out _) _)
  have RK4 : Hid (((w4.alloc (.cells #[.func (.func 34) #[] #[], .func (.func 35) #[] #[], .func (.func 36) #[] #[], .func (.func 37) #[] #[]] 46)).alloc (.cells #[.func (.func 34) #[] #[], .func (.func 35) #[] #[]] 46)).heap[w.heap.size + 1]? = some (.cells #[.int .i64 0, .int .i64 0, .int .i64 0, .int .i32 0, .int .i32 0, .int .i64 0, .int .i64 0, .int .u32 0, .int .i32 0] 32 (0, 0))) := Lib.hid (blk_alloc (blk_alloc RK3.out _) _)
  have SK4 : Hid (((w4.alloc (.cells #[.func (.func 34) #[] #[], .func (.func 35) #[] #[], .func (.func 36) #[] #[], .func (.func 37) #[] #[]] 46)).alloc (.cells #[.func (.func 34) #[] #[], .func (.func 35) #[] #[]] 46)).heap[w1.heap.size]? = some (.cells #[.int .i64 (m : Int), .bool pairs, .bool true, .func (.func (fa low)) #[] #[], .func (.func (fb low)) #[] #[]] 48 (0, 0))) := Lib.hid (blk_alloc (blk_alloc SK3.out _) _)
  have OK4 : Hid (((w4.alloc (.cells #[.func (.func 34) #[] #[], .func (.func 35) #[] #[], .func (.func 36) #[] #[], .func (.func 37) #[] #[]] 46)).alloc (.cells #[.func (.func 34) #[] #[], .func (.func 35) #[] #[]] 46)).heap[w4.heap.size]? = some (.cells #[.func (.func 34) #[] #[], .func (.func 35) #[] #[], .func (.func 36) #[] #[], .func (.func 37) #[] #[]] 46 (0, 0))) := Lib.hid (blk_alloc (heap_alloc_new _ _) _)
  have PK4 : Hid (((w4.alloc (.cells #[.func (.func 34) #[] #[], .func (.func 35) #[] #[], .func (.func 36) #[] #[], .func (.func 37) #[] #[]] 46)).alloc (.cells #[.func (.func 34) #[] #[], .func (.func 35) #[] #[]] 46)).heap[w4.heap.size + 1]? = some (.cells #[.func (.func 34) #[] #[], .func (.func 35) #[] #[]] 46 (0, 0))) := Lib.hid (blk_second _ _ _)
  have HB4 : Hid (Below w.heap.size w ((w4.alloc (.cells #[.func (.func 34) #[] #[], .func (.func 35) #[] #[], .func (.func 36) #[] #[], .func (.func 37) #[] #[]] 46)).alloc (.cells #[.func (.func 34) #[] #[], .func (.func 35) #[] #[]] 46))) := Lib.hid (below_alloc (below_alloc HB3.out _) _)
  generalize (w4.alloc (.cells #[.func (.func 34) #[] #[], .func (.func 35) #[] #[], .func (.func 36) #[] #[], .func (.func 37) #[] #[]] 46)).alloc (.cells #[.func (.func 34) #[] #[], .func (.func 35) #[] #[]] 46) = W5 at *
  clear ST3 RK3 SK3 HB3
  have s0 := blk_cell SK4.out 0
  have s1 := blk_cell SK4.out 1
  have s2 := blk_cell SK4.out 2
  have s3 := blk_cell SK4.out 3
  have s4 := blk_cell SK4.out 4
  have p0 := blk_cell PK4.out 0
  have p1 := blk_cell PK4.out 1
  go_quiet ((go_at_call 34; exact Calls.quiet_of_same (HNB.out _ (pw_below_drewN HB4.out _))))
  clear s0 s1 s2 s3 s4 p0 p1
  have ST5 : Hid ((W5.drewN nq).heap[w.heap.size]? = some (.cells #[.int .i64 0, .int .i64 0, .int .u32 0, .int .i32 0] 24 (0, 0))) := Lib.hid (blk_drewN ST4.out _)
  have RK5 : Hid ((W5.drewN nq).heap[w.heap.size + 1]? = some (.cells #[.int .i64 0, .int .i64 0, .int .i64 0, .int .i32 0, .int .i32 0, .int .i64 0, .int .i64 0, .int .u32 0, .int .i32 0] 32 (0, 0))) := Lib.hid (blk_drewN RK4.out _)
  have SK5 : Hid ((W5.drewN nq).heap[w1.heap.size]? = some (.cells #[.int .i64 (m : Int), .bool pairs, .bool true, .func (.func (fa low)) #[] #[], .func (.func (fb low)) #[] #[]] 48 (0, 0))) := Lib.hid (blk_drewN SK4.out _)
  have OK5 : Hid ((W5.drewN nq).heap[w4.heap.size]? = some (.cells #[.func (.func 34) #[] #[], .func (.func 35) #[] #[], .func (.func 36) #[] #[], .func (.func 37) #[] #[]] 46 (0, 0))) := Lib.hid (blk_drewN OK4.out _)
  have HB5 : Hid (Below w.heap.size w (W5.drewN nq)) := Lib.hid (pw_below_drewN HB4.out _)
  generalize W5.drewN nq = W6 at *
  clear ST4 RK4 SK4 OK4 HB4
  have s0 := blk_cell SK5.out 0
  have s1 := blk_cell SK5.out 1
  have s2 := blk_cell SK5.out 2
  have s3 := blk_cell SK5.out 3
  have s4 := blk_cell SK5.out 4
  have o0 := blk_cell OK5.out 0
  have o1 := blk_cell OK5.out 1
  have o2 := blk_cell OK5.out 2
  have o3 := blk_cell OK5.out 3
  have hz1 : w4.heap.size < W6.heap.size := blk_lt OK5.out
  have hz2 : w1.heap.size < W6.heap.size := blk_lt SK5.out
  go_wp2_with fail
  rw [rounds_succ]
  go_wp2_with fail
  clear s0 s1 s2 s3 s4 o0 o1 o2 o3
  have ST6 : Hid ((W6.alloc (.cells #[.func (.func 36) #[] #[], .func (.func 37) #[] #[]] 46)).heap[w.heap.size]? = some (.cells #[.int .i64 0, .int .i64 0, .int .u32 0, .int .i32 0] 24 (0, 0))) := Lib.hid (blk_alloc ST5.out _)
  have RK6 : Hid ((W6.alloc (.cells #[.func (.func 36) #[] #[], .func (.func 37) #[] #[]] 46)).heap[w.heap.size + 1]? = some (.cells #[.int .i64 0, .int .i64 0, .int .i64 0, .int .i32 0, .int .i32 0, .int .i64 0, .int .i64 0, .int .u32 0, .int .i32 0] 32 (0, 0))) := Lib.hid (blk_alloc RK5.out _)
  have SK6 : Hid ((W6.alloc (.cells #[.func (.func 36) #[] #[], .func (.func 37) #[] #[]] 46)).heap[w1.heap.size]? = some (.cells #[.int .i64 (m : Int), .bool pairs, .bool true, .func (.func (fa low)) #[] #[], .func (.func (fb low)) #[] #[]] 48 (0, 0))) := Lib.hid (blk_alloc SK5.out _)
  have OK6 : Hid ((W6.alloc (.cells #[.func (.func 36) #[] #[], .func (.func 37) #[] #[]] 46)).heap[w4.heap.size]? = some (.cells #[.func (.func 34) #[] #[], .func (.func 35) #[] #[], .func (.func 36) #[] #[], .func (.func 37) #[] #[]] 46 (0, 0))) := Lib.hid (blk_alloc OK5.out _)
  have PK6 : Hid ((W6.alloc (.cells #[.func (.func 36) #[] #[], .func (.func 37) #[] #[]] 46)).heap[W6.heap.size]? = some (.cells #[.func (.func 36) #[] #[], .func (.func 37) #[] #[]] 46 (0, 0))) := Lib.hid (heap_alloc_new _ _)
  have HB6 : Hid (Below w.heap.size w (W6.alloc (.cells #[.func (.func 36) #[] #[], .func (.func 37) #[] #[]] 46))) := Lib.hid (below_alloc HB5.out _)
  generalize W6.alloc (.cells #[.func (.func 36) #[] #[], .func (.func 37) #[] #[]] 46) = W7 at *
  clear ST5 RK5 SK5 OK5 HB5
  have s0 := blk_cell SK6.out 0
  have s1 := blk_cell SK6.out 1
  have s2 := blk_cell SK6.out 2
  have s3 := blk_cell SK6.out 3
  have s4 := blk_cell SK6.out 4
  have p0 := blk_cell PK6.out 0
  have p1 := blk_cell PK6.out 1
  go_quiet ((go_at_call 36; exact Calls.quiet_of_same (HNL.out _ (pw_below_drewN HB6.out _))))
  clear s0 s1 s2 s3 s4 p0 p1
  have ST7 : Hid ((W7.drewN nq).heap[w.heap.size]? = some (.cells #[.int .i64 0, .int .i64 0, .int .u32 0, .int .i32 0] 24 (0, 0))) := Lib.hid (blk_drewN ST6.out _)
  have RK7 : Hid ((W7.drewN nq).heap[w.heap.size + 1]? = some (.cells #[.int .i64 0, .int .i64 0, .int .i64 0, .int .i32 0, .int .i32 0, .int .i64 0, .int .i64 0, .int .u32 0, .int .i32 0] 32 (0, 0))) := Lib.hid (blk_drewN RK6.out _)
  have SK7 : Hid ((W7.drewN nq).heap[w1.heap.size]? = some (.cells #[.int .i64 (m : Int), .bool pairs, .bool true, .func (.func (fa low)) #[] #[], .func (.func (fb low)) #[] #[]] 48 (0, 0))) := Lib.hid (blk_drewN SK6.out _)
  have HB7 : Hid (Below w.heap.size w (W7.drewN nq)) := Lib.hid (pw_below_drewN HB6.out _)
  generalize W7.drewN nq = W8 at *
  clear ST6 RK6 SK6 HB6
  have s0 := blk_cell SK7.out 0
  have s1 := blk_cell SK7.out 1
  have s2 := blk_cell SK7.out 2
  have s3 := blk_cell SK7.out 3
  have s4 := blk_cell SK7.out 4
  have r0 := blk_cell RK7.out 0
  have r1 := blk_cell RK7.out 1
  have r2 := blk_cell RK7.out 2
  have r3 := blk_cell RK7.out 3
  have r4 := blk_cell RK7.out 4
  have r5 := blk_cell RK7.out 5
  have r6 := blk_cell RK7.out 6
  have r7 := blk_cell RK7.out 7
  have r8 := blk_cell RK7.out 8
  have q0 := blk_frozen RK7.out 0
  have q1 := blk_frozen RK7.out 1
  have q2 := blk_frozen RK7.out 2
  have q3 := blk_frozen RK7.out 3
  have q4 := blk_frozen RK7.out 4
  have q5 := blk_frozen RK7.out 5
  have q6 := blk_frozen RK7.out 6
  have q7 := blk_frozen RK7.out 7
  have q8 := blk_frozen RK7.out 8
  go_wp2_with fail
  refine bodyPost_ret (results_cell_row rfl _ _ (w.heap.size + 1) 32 _ (0, 0) _ rfl (put9 RK7.out _ _ _ _ _ _ _ _ _) Try.underlying32 rfl (by kernel_rfl)) rfl ?_
  exact ⟨rfl, below9 HB7.out (Nat.le_succ _) _ _ _ _ _ _ _ _ _⟩
set_option maxHeartbeats 2000000 in
set_option maxRecDepth 100000 in
theorem get_noMark (kind : Int) (m : Nat) (pairs low : Bool) (e k s u : Int) (A : Option Addr) (c : Nat) (l : List Int) (w : World) (hk : shp kind 0 = some ((m : Int), pairs, true, low)) (hf : Fit true 0 0 0 0) (hC : Kd.C (Kd.int .u8) w A l.length l) (hc : l.length ≤ c) (hb : ∀ x ∈ l, Byte x) (hl : m ≤ l.length) (hxB : num false (l.take m) ≠ 65279) (hxL : num true (l.take m) ≠ 65279) (hg : GP (m : Int) pairs low l e k s u) (h2 : (e != 1) = true) :
    Calls Try.prog 11 #[.int .i64 kind, stV 0 0 0 0, .slice A l.length c] w fun en w' => en = .returned (gotV e k s u 1) ∧ Below w.heap.size w w' := by
  have hm24 := (shp_ok hk).1
  have hm4 : m ≤ 4 := by omega
  obtain ⟨hsl, hnb⟩ := numAt false A c m l w hC hc hb hm4 hl
  obtain ⟨_, hnl⟩ := numAt true A c m l w hC hc hb hm4 hl
  have HNB := Lib.hid hnb
  have HNL := Lib.hid hnl
  change Hid (∀ W : World, Below w.heap.size w W → Calls Try.prog 34 #[.slice A m c] W fun e w' => e = .returned (.int .u32 (num false (l.take m))) ∧ w' = W) at HNB
  change Hid (∀ W : World, Below w.heap.size w W → Calls Try.prog 36 #[.slice A m c] W fun e w' => e = .returned (.int .u32 (num true (l.take m))) ∧ w' = W) at HNL
  clear hnb hnl
  have x1 : ((num false (l.take m) : Int) == 65279) = false := beq_eq_false_iff_ne.2 hxB
  clear hxB
  have x2 : ((num true (l.take m) : Int) == 65279) = false := beq_eq_false_iff_ne.2 hxL
  clear hxL
  have HG := Lib.hid hg
  clear hg
  generalize num false (l.take m) = xB at *
  generalize num true (l.take m) = xL at *
  have HK := Lib.hid hk
  have HF := Lib.hid hf
  have HC := Lib.hid hC
  have Hc := Lib.hid hc
  have Hb := Lib.hid hb
  have Hn := Lib.hid (shp_ok hk)
  clear hk hf hC hc hb hm24 hm4
  have hl' : (m : Int) ≤ (l.length : Int) := by omega
  unfold stV
  go_enter Try.func11, Try.ntmps11
  go_wp2_with fail
  refine (shapeC _ HK.out).mono ?_
  rintro e w1 ⟨rfl, hb1⟩
  rw [shV_eq]
  have ST0 : Hid (w1.heap[w.heap.size]? = some (.cells #[.int .i64 0, .int .i64 0, .int .u32 0, .int .i32 0] 24 (0, 0))) := Lib.hid (blk_below (blk_alloc (heap_alloc_new _ _) _) hb1)
  have RK0 : Hid (w1.heap[w.heap.size + 1]? = some (.cells #[.int .i64 0, .int .i64 0, .int .i64 0, .int .i32 0, .int .i32 0, .int .i64 0, .int .i64 0, .int .u32 0, .int .i32 0] 32 (0, 0))) := Lib.hid (blk_below (blk_second _ _ _) hb1)
  have HB0 : Hid (Below w.heap.size w w1) := Lib.hid (on (below_alloc (below_alloc (Below.refl _ _) _) _) hb1)
  have hg0 : w.heap.size + 1 < w1.heap.size := blk_lt RK0.out
  clear hb1
  have hg1 : w.heap.size < w1.heap.size := by omega
  have e0 := blk_cell ST0.out 0
  have e1 := blk_cell ST0.out 1
  have e2 := blk_cell ST0.out 2
  have e3 := blk_cell ST0.out 3
  go_wp2_with fail
  have hc := fitsC m 0 0 0 0 pairs true low (w1.alloc (.cells #[.int .i64 (m : Int), .bool pairs, .bool true, .func (.func (fa low)) #[] #[], .func (.func (fb low)) #[] #[]] 48)) HF.out
  rw [shV_eq] at hc
  unfold stV at hc
  refine hc.mono ?_
  clear hc
  rintro e w2 ⟨rfl, hb2⟩
  clear e0 e1 e2 e3
  have ST1 : Hid ((w2).heap[w.heap.size]? = some (.cells #[.int .i64 0, .int .i64 0, .int .u32 0, .int .i32 0] 24 (0, 0))) := Lib.hid (blk_below (blk_alloc ST0.out _) hb2)
  have RK1 : Hid ((w2).heap[w.heap.size + 1]? = some (.cells #[.int .i64 0, .int .i64 0, .int .i64 0, .int .i32 0, .int .i32 0, .int .i64 0, .int .i64 0, .int .u32 0, .int .i32 0] 32 (0, 0))) := Lib.hid (blk_below (blk_alloc RK0.out _) hb2)
  have SK1 : Hid ((w2).heap[w1.heap.size]? = some (.cells #[.int .i64 (m : Int), .bool pairs, .bool true, .func (.func (fa low)) #[] #[], .func (.func (fb low)) #[] #[]] 48 (0, 0))) := Lib.hid (blk_below (heap_alloc_new _ _) hb2)
  have HB1 : Hid (Below w.heap.size w (w2)) := Lib.hid (on (below_alloc HB0.out _) hb2)
  clear hb2
  have e0 := blk_cell ST1.out 0
  have e1 := blk_cell ST1.out 1
  have e2 := blk_cell ST1.out 2
  have e3 := blk_cell ST1.out 3
  have s0 := blk_cell SK1.out 0
  have s1 := blk_cell SK1.out 1
  have s2 := blk_cell SK1.out 2
  have s3 := blk_cell SK1.out 3
  have s4 := blk_cell SK1.out 4
  have hg2 : w1.heap.size < w2.heap.size := blk_lt SK1.out
  go_wp2_with fail
  refine (bigC _).mono ?_
  rintro en w3 ⟨rfl, hb3⟩
  clear e0 e1 e2 e3 s0 s1 s2 s3 s4
  have ST2 : Hid ((w3).heap[w.heap.size]? = some (.cells #[.int .i64 0, .int .i64 0, .int .u32 0, .int .i32 0] 24 (0, 0))) := Lib.hid (blk_below ST1.out hb3)
  have RK2 : Hid ((w3).heap[w.heap.size + 1]? = some (.cells #[.int .i64 0, .int .i64 0, .int .i64 0, .int .i32 0, .int .i32 0, .int .i64 0, .int .i64 0, .int .u32 0, .int .i32 0] 32 (0, 0))) := Lib.hid (blk_below RK1.out hb3)
  have SK2 : Hid ((w3).heap[w1.heap.size]? = some (.cells #[.int .i64 (m : Int), .bool pairs, .bool true, .func (.func (fa low)) #[] #[], .func (.func (fb low)) #[] #[]] 48 (0, 0))) := Lib.hid (blk_below SK1.out hb3)
  have HB2 : Hid (Below w.heap.size w (w3)) := Lib.hid (on HB1.out hb3)
  clear ST1 RK1 SK1 HB1
  clear hb3
  go_wp2_with fail
  refine (littleC _).mono ?_
  rintro en w4 ⟨rfl, hb4⟩
  have ST3 : Hid ((w4).heap[w.heap.size]? = some (.cells #[.int .i64 0, .int .i64 0, .int .u32 0, .int .i32 0] 24 (0, 0))) := Lib.hid (blk_below ST2.out hb4)
  have RK3 : Hid ((w4).heap[w.heap.size + 1]? = some (.cells #[.int .i64 0, .int .i64 0, .int .i64 0, .int .i32 0, .int .i32 0, .int .i64 0, .int .i64 0, .int .u32 0, .int .i32 0] 32 (0, 0))) := Lib.hid (blk_below RK2.out hb4)
  have SK3 : Hid ((w4).heap[w1.heap.size]? = some (.cells #[.int .i64 (m : Int), .bool pairs, .bool true, .func (.func (fa low)) #[] #[], .func (.func (fb low)) #[] #[]] 48 (0, 0))) := Lib.hid (blk_below SK2.out hb4)
  have HB3 : Hid (Below w.heap.size w (w4)) := Lib.hid (on HB2.out hb4)
  clear ST2 RK2 SK2 HB2
  clear hb4
  go_wp2_with fail
  refine wp_loop_rounds 3 ?_
  rw [rounds_succ]
  go_wp2_with fail
  have ST4 : Hid (((w4.alloc (.cells #[.func (.func 34) #[] #[], .func (.func 35) #[] #[], .func (.func 36) #[] #[], .func (.func 37) #[] #[]] 46)).alloc (.cells #[.func (.func 34) #[] #[], .func (.func 35) #[] #[]] 46)).heap[w.heap.size]? = some (.cells #[.int .i64 0, .int .i64 0, .int .u32 0, .int .i32 0] 24 (0, 0))) := Lib.hid (blk_alloc (blk_alloc ST3.out _) _)
  have RK4 : Hid (((w4.alloc (.cells #[.func (.func 34) #[] #[], .func (.func 35) #[] #[], .func (.func 36) #[] #[], .func (.func 37) #[] #[]] 46)).alloc (.cells #[.func (.func 34) #[] #[], .func (.func 35) #[] #[]] 46)).heap[w.heap.size + 1]? = some (.cells #[.int .i64 0, .int .i64 0, .int .i64 0, .int .i32 0, .int .i32 0, .int .i64 0, .int .i64 0, .int .u32 0, .int .i32 0] 32 (0, 0))) := Lib.hid (blk_alloc (blk_alloc RK3.out _) _)
  have SK4 : Hid (((w4.alloc (.cells #[.func (.func 34) #[] #[], .func (.func 35) #[] #[], .func (.func 36) #[] #[], .func (.func 37) #[] #[]] 46)).alloc (.cells #[.func (.func 34) #[] #[], .func (.func 35) #[] #[]] 46)).heap[w1.heap.size]? = some (.cells #[.int .i64 (m : Int), .bool pairs, .bool true, .func (.func (fa low)) #[] #[], .func (.func (fb low)) #[] #[]] 48 (0, 0))) := Lib.hid (blk_alloc (blk_alloc SK3.out _) _)
  have OK4 : Hid (((w4.alloc (.cells #[.func (.func 34) #[] #[], .func (.func 35) #[] #[], .func (.func 36) #[] #[], .func (.func 37) #[] #[]] 46)).alloc (.cells #[.func (.func 34) #[] #[], .func (.func 35) #[] #[]] 46)).heap[w4.heap.size]? = some (.cells #[.func (.func 34) #[] #[], .func (.func 35) #[] #[], .func (.func 36) #[] #[], .func (.func 37) #[] #[]] 46 (0, 0))) := Lib.hid (blk_alloc (heap_alloc_new _ _) _)
  have PK4 : Hid (((w4.alloc (.cells #[.func (.func 34) #[] #[], .func (.func 35) #[] #[], .func (.func 36) #[] #[], .func (.func 37) #[] #[]] 46)).alloc (.cells #[.func (.func 34) #[] #[], .func (.func 35) #[] #[]] 46)).heap[w4.heap.size + 1]? = some (.cells #[.func (.func 34) #[] #[], .func (.func 35) #[] #[]] 46 (0, 0))) := Lib.hid (blk_second _ _ _)
  have HB4 : Hid (Below w.heap.size w ((w4.alloc (.cells #[.func (.func 34) #[] #[], .func (.func 35) #[] #[], .func (.func 36) #[] #[], .func (.func 37) #[] #[]] 46)).alloc (.cells #[.func (.func 34) #[] #[], .func (.func 35) #[] #[]] 46))) := Lib.hid (below_alloc (below_alloc HB3.out _) _)
  generalize (w4.alloc (.cells #[.func (.func 34) #[] #[], .func (.func 35) #[] #[], .func (.func 36) #[] #[], .func (.func 37) #[] #[]] 46)).alloc (.cells #[.func (.func 34) #[] #[], .func (.func 35) #[] #[]] 46) = W5 at *
  clear ST3 RK3 SK3 HB3
  have s0 := blk_cell SK4.out 0
  have s1 := blk_cell SK4.out 1
  have s2 := blk_cell SK4.out 2
  have s3 := blk_cell SK4.out 3
  have s4 := blk_cell SK4.out 4
  have p0 := blk_cell PK4.out 0
  have p1 := blk_cell PK4.out 1
  go_quiet ((go_at_call 34; exact Calls.quiet_of_same (HNB.out _ (pw_below_drewN HB4.out _))))
  clear s0 s1 s2 s3 s4 p0 p1
  have ST5 : Hid ((W5.drewN nq).heap[w.heap.size]? = some (.cells #[.int .i64 0, .int .i64 0, .int .u32 0, .int .i32 0] 24 (0, 0))) := Lib.hid (blk_drewN ST4.out _)
  have RK5 : Hid ((W5.drewN nq).heap[w.heap.size + 1]? = some (.cells #[.int .i64 0, .int .i64 0, .int .i64 0, .int .i32 0, .int .i32 0, .int .i64 0, .int .i64 0, .int .u32 0, .int .i32 0] 32 (0, 0))) := Lib.hid (blk_drewN RK4.out _)
  have SK5 : Hid ((W5.drewN nq).heap[w1.heap.size]? = some (.cells #[.int .i64 (m : Int), .bool pairs, .bool true, .func (.func (fa low)) #[] #[], .func (.func (fb low)) #[] #[]] 48 (0, 0))) := Lib.hid (blk_drewN SK4.out _)
  have OK5 : Hid ((W5.drewN nq).heap[w4.heap.size]? = some (.cells #[.func (.func 34) #[] #[], .func (.func 35) #[] #[], .func (.func 36) #[] #[], .func (.func 37) #[] #[]] 46 (0, 0))) := Lib.hid (blk_drewN OK4.out _)
  have HB5 : Hid (Below w.heap.size w (W5.drewN nq)) := Lib.hid (pw_below_drewN HB4.out _)
  generalize W5.drewN nq = W6 at *
  clear ST4 RK4 SK4 OK4 HB4
  have s0 := blk_cell SK5.out 0
  have s1 := blk_cell SK5.out 1
  have s2 := blk_cell SK5.out 2
  have s3 := blk_cell SK5.out 3
  have s4 := blk_cell SK5.out 4
  have o0 := blk_cell OK5.out 0
  have o1 := blk_cell OK5.out 1
  have o2 := blk_cell OK5.out 2
  have o3 := blk_cell OK5.out 3
  have hz1 : w4.heap.size < W6.heap.size := blk_lt OK5.out
  have hz2 : w1.heap.size < W6.heap.size := blk_lt SK5.out
  go_wp2_with fail
  rw [rounds_succ]
  go_wp2_with fail
  clear s0 s1 s2 s3 s4 o0 o1 o2 o3
  have ST6 : Hid ((W6.alloc (.cells #[.func (.func 36) #[] #[], .func (.func 37) #[] #[]] 46)).heap[w.heap.size]? = some (.cells #[.int .i64 0, .int .i64 0, .int .u32 0, .int .i32 0] 24 (0, 0))) := Lib.hid (blk_alloc ST5.out _)
  have RK6 : Hid ((W6.alloc (.cells #[.func (.func 36) #[] #[], .func (.func 37) #[] #[]] 46)).heap[w.heap.size + 1]? = some (.cells #[.int .i64 0, .int .i64 0, .int .i64 0, .int .i32 0, .int .i32 0, .int .i64 0, .int .i64 0, .int .u32 0, .int .i32 0] 32 (0, 0))) := Lib.hid (blk_alloc RK5.out _)
  have SK6 : Hid ((W6.alloc (.cells #[.func (.func 36) #[] #[], .func (.func 37) #[] #[]] 46)).heap[w1.heap.size]? = some (.cells #[.int .i64 (m : Int), .bool pairs, .bool true, .func (.func (fa low)) #[] #[], .func (.func (fb low)) #[] #[]] 48 (0, 0))) := Lib.hid (blk_alloc SK5.out _)
  have OK6 : Hid ((W6.alloc (.cells #[.func (.func 36) #[] #[], .func (.func 37) #[] #[]] 46)).heap[w4.heap.size]? = some (.cells #[.func (.func 34) #[] #[], .func (.func 35) #[] #[], .func (.func 36) #[] #[], .func (.func 37) #[] #[]] 46 (0, 0))) := Lib.hid (blk_alloc OK5.out _)
  have PK6 : Hid ((W6.alloc (.cells #[.func (.func 36) #[] #[], .func (.func 37) #[] #[]] 46)).heap[W6.heap.size]? = some (.cells #[.func (.func 36) #[] #[], .func (.func 37) #[] #[]] 46 (0, 0))) := Lib.hid (heap_alloc_new _ _)
  have HB6 : Hid (Below w.heap.size w (W6.alloc (.cells #[.func (.func 36) #[] #[], .func (.func 37) #[] #[]] 46))) := Lib.hid (below_alloc HB5.out _)
  generalize W6.alloc (.cells #[.func (.func 36) #[] #[], .func (.func 37) #[] #[]] 46) = W7 at *
  clear ST5 RK5 SK5 OK5 HB5
  have s0 := blk_cell SK6.out 0
  have s1 := blk_cell SK6.out 1
  have s2 := blk_cell SK6.out 2
  have s3 := blk_cell SK6.out 3
  have s4 := blk_cell SK6.out 4
  have p0 := blk_cell PK6.out 0
  have p1 := blk_cell PK6.out 1
  go_quiet ((go_at_call 36; exact Calls.quiet_of_same (HNL.out _ (pw_below_drewN HB6.out _))))
  clear s0 s1 s2 s3 s4 p0 p1
  have ST7 : Hid ((W7.drewN nq).heap[w.heap.size]? = some (.cells #[.int .i64 0, .int .i64 0, .int .u32 0, .int .i32 0] 24 (0, 0))) := Lib.hid (blk_drewN ST6.out _)
  have RK7 : Hid ((W7.drewN nq).heap[w.heap.size + 1]? = some (.cells #[.int .i64 0, .int .i64 0, .int .i64 0, .int .i32 0, .int .i32 0, .int .i64 0, .int .i64 0, .int .u32 0, .int .i32 0] 32 (0, 0))) := Lib.hid (blk_drewN RK6.out _)
  have SK7 : Hid ((W7.drewN nq).heap[w1.heap.size]? = some (.cells #[.int .i64 (m : Int), .bool pairs, .bool true, .func (.func (fa low)) #[] #[], .func (.func (fb low)) #[] #[]] 48 (0, 0))) := Lib.hid (blk_drewN SK6.out _)
  have HB7 : Hid (Below w.heap.size w (W7.drewN nq)) := Lib.hid (pw_below_drewN HB6.out _)
  generalize W7.drewN nq = W8 at *
  clear ST6 RK6 SK6 HB6
  have s0 := blk_cell SK7.out 0
  have s1 := blk_cell SK7.out 1
  have s2 := blk_cell SK7.out 2
  have s3 := blk_cell SK7.out 3
  have s4 := blk_cell SK7.out 4
  have e0 := blk_cell ST7.out 0
  have e1 := blk_cell ST7.out 1
  have e2 := blk_cell ST7.out 2
  have e3 := blk_cell ST7.out 3
  have f0 := blk_frozen ST7.out 0
  have f1 := blk_frozen ST7.out 1
  have f2 := blk_frozen ST7.out 2
  have f3 := blk_frozen ST7.out 3
  have hy1 : ¬ w.heap.size = w1.heap.size := by omega
  have hy2 : ¬ w1.heap.size = w.heap.size := by omega
  go_wp2_with fail
  rw [rounds_succ]
  go_wp2_with fail
  clear e0 e1 e2 e3 f0 f1 f2 f3 s0 s1 s2 s3 s4
  have ST8 : Hid ((W8.setCell ⟨w.heap.size, 0, none⟩ (.int .i64 1)).heap[w.heap.size]? = some (.cells #[.int .i64 1, .int .i64 0, .int .u32 0, .int .i32 0] 24 (0, 0))) := Lib.hid (blk_set ST7.out 0 _)
  have RK8 : Hid ((W8.setCell ⟨w.heap.size, 0, none⟩ (.int .i64 1)).heap[w.heap.size + 1]? = some (.cells #[.int .i64 0, .int .i64 0, .int .i64 0, .int .i32 0, .int .i32 0, .int .i64 0, .int .i64 0, .int .u32 0, .int .i32 0] 32 (0, 0))) := Lib.hid (blk_far RK7.out (by show w.heap.size + 1 ≠ w.heap.size; omega) _)
  have SK8 : Hid ((W8.setCell ⟨w.heap.size, 0, none⟩ (.int .i64 1)).heap[w1.heap.size]? = some (.cells #[.int .i64 (m : Int), .bool pairs, .bool true, .func (.func (fa low)) #[] #[], .func (.func (fb low)) #[] #[]] 48 (0, 0))) := Lib.hid (blk_far SK7.out (by show w1.heap.size ≠ w.heap.size; omega) _)
  have HB8 : Hid (Below w.heap.size w (W8.setCell ⟨w.heap.size, 0, none⟩ (.int .i64 1))) := Lib.hid (HB7.out.setCell (p := ⟨w.heap.size, 0, none⟩) (Nat.le_refl _) _)
  generalize W8.setCell ⟨w.heap.size, 0, none⟩ (.int .i64 1) = W9 at *
  clear ST7 RK7 SK7 HB7
  have hc := sgetC (marks := true) (low := low) W9 (Kd.C_below HC.out HB8.out) Hc.out Hb.out Hn.out.1 Hn.out.2 HG.out
  rw [shV_eq] at hc
  refine hc.mono ?_
  clear hc
  rintro en w10 ⟨rfl, hb10⟩
  have ST9 : Hid ((w10).heap[w.heap.size]? = some (.cells #[.int .i64 1, .int .i64 0, .int .u32 0, .int .i32 0] 24 (0, 0))) := Lib.hid (blk_below ST8.out hb10)
  have RK9 : Hid ((w10).heap[w.heap.size + 1]? = some (.cells #[.int .i64 0, .int .i64 0, .int .i64 0, .int .i32 0, .int .i32 0, .int .i64 0, .int .i64 0, .int .u32 0, .int .i32 0] 32 (0, 0))) := Lib.hid (blk_below RK8.out hb10)
  have SK9 : Hid ((w10).heap[w1.heap.size]? = some (.cells #[.int .i64 (m : Int), .bool pairs, .bool true, .func (.func (fa low)) #[] #[], .func (.func (fb low)) #[] #[]] 48 (0, 0))) := Lib.hid (blk_below SK8.out hb10)
  have HB9 : Hid (Below w.heap.size w (w10)) := Lib.hid (on HB8.out hb10)
  clear ST8 RK8 SK8 HB8
  clear hb10
  have hg3 : w1.heap.size < w10.heap.size := blk_lt SK9.out
  have hg4 : w.heap.size + 1 < w10.heap.size := by omega
  have hg5 : w.heap.size < w10.heap.size := by omega
  have e0 := blk_cell ST9.out 0
  have e1 := blk_cell ST9.out 1
  have e2 := blk_cell ST9.out 2
  have e3 := blk_cell ST9.out 3
  have r0 := blk_cell RK9.out 0
  have r1 := blk_cell RK9.out 1
  have r2 := blk_cell RK9.out 2
  have r3 := blk_cell RK9.out 3
  have r4 := blk_cell RK9.out 4
  have r5 := blk_cell RK9.out 5
  have r6 := blk_cell RK9.out 6
  have r7 := blk_cell RK9.out 7
  have r8 := blk_cell RK9.out 8
  have q0 := blk_frozen RK9.out 0
  have q1 := blk_frozen RK9.out 1
  have q2 := blk_frozen RK9.out 2
  have q3 := blk_frozen RK9.out 3
  have q4 := blk_frozen RK9.out 4
  have q5 := blk_frozen RK9.out 5
  have q6 := blk_frozen RK9.out 6
  have q7 := blk_frozen RK9.out 7
  have q8 := blk_frozen RK9.out 8
  unfold gotV
  go_wp2_with fail
  refine bodyPost_ret (results_cell_row rfl _ _ (w.heap.size + 1) 32 _ (0, 0) _ rfl (blk_alloc (put9 RK9.out _ _ _ _ _ _ _ _ _) _) Try.underlying32 rfl (by kernel_rfl)) rfl ?_
  exact ⟨rfl, below_alloc (below9 HB9.out (Nat.le_succ _) _ _ _ _ _ _ _ _ _) _⟩
set_option maxHeartbeats 2000000 in
set_option maxRecDepth 100000 in
theorem get_noMore (kind : Int) (m : Nat) (pairs low : Bool) (k s u : Int) (A : Option Addr) (c : Nat) (l : List Int) (w : World) (hk : shp kind 0 = some ((m : Int), pairs, true, low)) (hf : Fit true 0 0 0 0) (hC : Kd.C (Kd.int .u8) w A l.length l) (hc : l.length ≤ c) (hb : ∀ x ∈ l, Byte x) (hl : m ≤ l.length) (hxB : num false (l.take m) ≠ 65279) (hxL : num true (l.take m) ≠ 65279) (hg : GP (m : Int) pairs low l 1 k s u) :
    Calls Try.prog 11 #[.int .i64 kind, stV 0 0 0 0, .slice A l.length c] w fun en w' => en = .returned (gotV 1 k s u 0) ∧ Below w.heap.size w w' := by
  have hm24 := (shp_ok hk).1
  have hm4 : m ≤ 4 := by omega
  obtain ⟨hsl, hnb⟩ := numAt false A c m l w hC hc hb hm4 hl
  obtain ⟨_, hnl⟩ := numAt true A c m l w hC hc hb hm4 hl
  have HNB := Lib.hid hnb
  have HNL := Lib.hid hnl
  change Hid (∀ W : World, Below w.heap.size w W → Calls Try.prog 34 #[.slice A m c] W fun e w' => e = .returned (.int .u32 (num false (l.take m))) ∧ w' = W) at HNB
  change Hid (∀ W : World, Below w.heap.size w W → Calls Try.prog 36 #[.slice A m c] W fun e w' => e = .returned (.int .u32 (num true (l.take m))) ∧ w' = W) at HNL
  clear hnb hnl
  have x1 : ((num false (l.take m) : Int) == 65279) = false := beq_eq_false_iff_ne.2 hxB
  clear hxB
  have x2 : ((num true (l.take m) : Int) == 65279) = false := beq_eq_false_iff_ne.2 hxL
  clear hxL
  have HG := Lib.hid hg
  clear hg
  generalize num false (l.take m) = xB at *
  generalize num true (l.take m) = xL at *
  have HK := Lib.hid hk
  have HF := Lib.hid hf
  have HC := Lib.hid hC
  have Hc := Lib.hid hc
  have Hb := Lib.hid hb
  have Hn := Lib.hid (shp_ok hk)
  clear hk hf hC hc hb hm24 hm4
  have hl' : (m : Int) ≤ (l.length : Int) := by omega
  unfold stV
  go_enter Try.func11, Try.ntmps11
  go_wp2_with fail
  refine (shapeC _ HK.out).mono ?_
  rintro e w1 ⟨rfl, hb1⟩
  rw [shV_eq]
  have ST0 : Hid (w1.heap[w.heap.size]? = some (.cells #[.int .i64 0, .int .i64 0, .int .u32 0, .int .i32 0] 24 (0, 0))) := Lib.hid (blk_below (blk_alloc (heap_alloc_new _ _) _) hb1)
  have RK0 : Hid (w1.heap[w.heap.size + 1]? = some (.cells #[.int .i64 0, .int .i64 0, .int .i64 0, .int .i32 0, .int .i32 0, .int .i64 0, .int .i64 0, .int .u32 0, .int .i32 0] 32 (0, 0))) := Lib.hid (blk_below (blk_second _ _ _) hb1)
  have HB0 : Hid (Below w.heap.size w w1) := Lib.hid (on (below_alloc (below_alloc (Below.refl _ _) _) _) hb1)
  have hg0 : w.heap.size + 1 < w1.heap.size := blk_lt RK0.out
  clear hb1
  have hg1 : w.heap.size < w1.heap.size := by omega
  have e0 := blk_cell ST0.out 0
  have e1 := blk_cell ST0.out 1
  have e2 := blk_cell ST0.out 2
  have e3 := blk_cell ST0.out 3
  go_wp2_with fail
  have hc := fitsC m 0 0 0 0 pairs true low (w1.alloc (.cells #[.int .i64 (m : Int), .bool pairs, .bool true, .func (.func (fa low)) #[] #[], .func (.func (fb low)) #[] #[]] 48)) HF.out
  rw [shV_eq] at hc
  unfold stV at hc
  refine hc.mono ?_
  clear hc
  rintro e w2 ⟨rfl, hb2⟩
  clear e0 e1 e2 e3
  have ST1 : Hid ((w2).heap[w.heap.size]? = some (.cells #[.int .i64 0, .int .i64 0, .int .u32 0, .int .i32 0] 24 (0, 0))) := Lib.hid (blk_below (blk_alloc ST0.out _) hb2)
  have RK1 : Hid ((w2).heap[w.heap.size + 1]? = some (.cells #[.int .i64 0, .int .i64 0, .int .i64 0, .int .i32 0, .int .i32 0, .int .i64 0, .int .i64 0, .int .u32 0, .int .i32 0] 32 (0, 0))) := Lib.hid (blk_below (blk_alloc RK0.out _) hb2)
  have SK1 : Hid ((w2).heap[w1.heap.size]? = some (.cells #[.int .i64 (m : Int), .bool pairs, .bool true, .func (.func (fa low)) #[] #[], .func (.func (fb low)) #[] #[]] 48 (0, 0))) := Lib.hid (blk_below (heap_alloc_new _ _) hb2)
  have HB1 : Hid (Below w.heap.size w (w2)) := Lib.hid (on (below_alloc HB0.out _) hb2)
  clear hb2
  have e0 := blk_cell ST1.out 0
  have e1 := blk_cell ST1.out 1
  have e2 := blk_cell ST1.out 2
  have e3 := blk_cell ST1.out 3
  have s0 := blk_cell SK1.out 0
  have s1 := blk_cell SK1.out 1
  have s2 := blk_cell SK1.out 2
  have s3 := blk_cell SK1.out 3
  have s4 := blk_cell SK1.out 4
  have hg2 : w1.heap.size < w2.heap.size := blk_lt SK1.out
  go_wp2_with fail
  refine (bigC _).mono ?_
  rintro en w3 ⟨rfl, hb3⟩
  clear e0 e1 e2 e3 s0 s1 s2 s3 s4
  have ST2 : Hid ((w3).heap[w.heap.size]? = some (.cells #[.int .i64 0, .int .i64 0, .int .u32 0, .int .i32 0] 24 (0, 0))) := Lib.hid (blk_below ST1.out hb3)
  have RK2 : Hid ((w3).heap[w.heap.size + 1]? = some (.cells #[.int .i64 0, .int .i64 0, .int .i64 0, .int .i32 0, .int .i32 0, .int .i64 0, .int .i64 0, .int .u32 0, .int .i32 0] 32 (0, 0))) := Lib.hid (blk_below RK1.out hb3)
  have SK2 : Hid ((w3).heap[w1.heap.size]? = some (.cells #[.int .i64 (m : Int), .bool pairs, .bool true, .func (.func (fa low)) #[] #[], .func (.func (fb low)) #[] #[]] 48 (0, 0))) := Lib.hid (blk_below SK1.out hb3)
  have HB2 : Hid (Below w.heap.size w (w3)) := Lib.hid (on HB1.out hb3)
  clear ST1 RK1 SK1 HB1
  clear hb3
  go_wp2_with fail
  refine (littleC _).mono ?_
  rintro en w4 ⟨rfl, hb4⟩
  have ST3 : Hid ((w4).heap[w.heap.size]? = some (.cells #[.int .i64 0, .int .i64 0, .int .u32 0, .int .i32 0] 24 (0, 0))) := Lib.hid (blk_below ST2.out hb4)
  have RK3 : Hid ((w4).heap[w.heap.size + 1]? = some (.cells #[.int .i64 0, .int .i64 0, .int .i64 0, .int .i32 0, .int .i32 0, .int .i64 0, .int .i64 0, .int .u32 0, .int .i32 0] 32 (0, 0))) := Lib.hid (blk_below RK2.out hb4)
  have SK3 : Hid ((w4).heap[w1.heap.size]? = some (.cells #[.int .i64 (m : Int), .bool pairs, .bool true, .func (.func (fa low)) #[] #[], .func (.func (fb low)) #[] #[]] 48 (0, 0))) := Lib.hid (blk_below SK2.out hb4)
  have HB3 : Hid (Below w.heap.size w (w4)) := Lib.hid (on HB2.out hb4)
  clear ST2 RK2 SK2 HB2
  clear hb4
  go_wp2_with fail
  refine wp_loop_rounds 3 ?_
  rw [rounds_succ]
  go_wp2_with fail
  have ST4 : Hid (((w4.alloc (.cells #[.func (.func 34) #[] #[], .func (.func 35) #[] #[], .func (.func 36) #[] #[], .func (.func 37) #[] #[]] 46)).alloc (.cells #[.func (.func 34) #[] #[], .func (.func 35) #[] #[]] 46)).heap[w.heap.size]? = some (.cells #[.int .i64 0, .int .i64 0, .int .u32 0, .int .i32 0] 24 (0, 0))) := Lib.hid (blk_alloc (blk_alloc ST3.out _) _)
  have RK4 : Hid (((w4.alloc (.cells #[.func (.func 34) #[] #[], .func (.func 35) #[] #[], .func (.func 36) #[] #[], .func (.func 37) #[] #[]] 46)).alloc (.cells #[.func (.func 34) #[] #[], .func (.func 35) #[] #[]] 46)).heap[w.heap.size + 1]? = some (.cells #[.int .i64 0, .int .i64 0, .int .i64 0, .int .i32 0, .int .i32 0, .int .i64 0, .int .i64 0, .int .u32 0, .int .i32 0] 32 (0, 0))) := Lib.hid (blk_alloc (blk_alloc RK3.out _) _)
  have SK4 : Hid (((w4.alloc (.cells #[.func (.func 34) #[] #[], .func (.func 35) #[] #[], .func (.func 36) #[] #[], .func (.func 37) #[] #[]] 46)).alloc (.cells #[.func (.func 34) #[] #[], .func (.func 35) #[] #[]] 46)).heap[w1.heap.size]? = some (.cells #[.int .i64 (m : Int), .bool pairs, .bool true, .func (.func (fa low)) #[] #[], .func (.func (fb low)) #[] #[]] 48 (0, 0))) := Lib.hid (blk_alloc (blk_alloc SK3.out _) _)
  have OK4 : Hid (((w4.alloc (.cells #[.func (.func 34) #[] #[], .func (.func 35) #[] #[], .func (.func 36) #[] #[], .func (.func 37) #[] #[]] 46)).alloc (.cells #[.func (.func 34) #[] #[], .func (.func 35) #[] #[]] 46)).heap[w4.heap.size]? = some (.cells #[.func (.func 34) #[] #[], .func (.func 35) #[] #[], .func (.func 36) #[] #[], .func (.func 37) #[] #[]] 46 (0, 0))) := Lib.hid (blk_alloc (heap_alloc_new _ _) _)
  have PK4 : Hid (((w4.alloc (.cells #[.func (.func 34) #[] #[], .func (.func 35) #[] #[], .func (.func 36) #[] #[], .func (.func 37) #[] #[]] 46)).alloc (.cells #[.func (.func 34) #[] #[], .func (.func 35) #[] #[]] 46)).heap[w4.heap.size + 1]? = some (.cells #[.func (.func 34) #[] #[], .func (.func 35) #[] #[]] 46 (0, 0))) := Lib.hid (blk_second _ _ _)
  have HB4 : Hid (Below w.heap.size w ((w4.alloc (.cells #[.func (.func 34) #[] #[], .func (.func 35) #[] #[], .func (.func 36) #[] #[], .func (.func 37) #[] #[]] 46)).alloc (.cells #[.func (.func 34) #[] #[], .func (.func 35) #[] #[]] 46))) := Lib.hid (below_alloc (below_alloc HB3.out _) _)
  generalize (w4.alloc (.cells #[.func (.func 34) #[] #[], .func (.func 35) #[] #[], .func (.func 36) #[] #[], .func (.func 37) #[] #[]] 46)).alloc (.cells #[.func (.func 34) #[] #[], .func (.func 35) #[] #[]] 46) = W5 at *
  clear ST3 RK3 SK3 HB3
  have s0 := blk_cell SK4.out 0
  have s1 := blk_cell SK4.out 1
  have s2 := blk_cell SK4.out 2
  have s3 := blk_cell SK4.out 3
  have s4 := blk_cell SK4.out 4
  have p0 := blk_cell PK4.out 0
  have p1 := blk_cell PK4.out 1
  go_quiet ((go_at_call 34; exact Calls.quiet_of_same (HNB.out _ (pw_below_drewN HB4.out _))))
  clear s0 s1 s2 s3 s4 p0 p1
  have ST5 : Hid ((W5.drewN nq).heap[w.heap.size]? = some (.cells #[.int .i64 0, .int .i64 0, .int .u32 0, .int .i32 0] 24 (0, 0))) := Lib.hid (blk_drewN ST4.out _)
  have RK5 : Hid ((W5.drewN nq).heap[w.heap.size + 1]? = some (.cells #[.int .i64 0, .int .i64 0, .int .i64 0, .int .i32 0, .int .i32 0, .int .i64 0, .int .i64 0, .int .u32 0, .int .i32 0] 32 (0, 0))) := Lib.hid (blk_drewN RK4.out _)
  have SK5 : Hid ((W5.drewN nq).heap[w1.heap.size]? = some (.cells #[.int .i64 (m : Int), .bool pairs, .bool true, .func (.func (fa low)) #[] #[], .func (.func (fb low)) #[] #[]] 48 (0, 0))) := Lib.hid (blk_drewN SK4.out _)
  have OK5 : Hid ((W5.drewN nq).heap[w4.heap.size]? = some (.cells #[.func (.func 34) #[] #[], .func (.func 35) #[] #[], .func (.func 36) #[] #[], .func (.func 37) #[] #[]] 46 (0, 0))) := Lib.hid (blk_drewN OK4.out _)
  have HB5 : Hid (Below w.heap.size w (W5.drewN nq)) := Lib.hid (pw_below_drewN HB4.out _)
  generalize W5.drewN nq = W6 at *
  clear ST4 RK4 SK4 OK4 HB4
  have s0 := blk_cell SK5.out 0
  have s1 := blk_cell SK5.out 1
  have s2 := blk_cell SK5.out 2
  have s3 := blk_cell SK5.out 3
  have s4 := blk_cell SK5.out 4
  have o0 := blk_cell OK5.out 0
  have o1 := blk_cell OK5.out 1
  have o2 := blk_cell OK5.out 2
  have o3 := blk_cell OK5.out 3
  have hz1 : w4.heap.size < W6.heap.size := blk_lt OK5.out
  have hz2 : w1.heap.size < W6.heap.size := blk_lt SK5.out
  go_wp2_with fail
  rw [rounds_succ]
  go_wp2_with fail
  clear s0 s1 s2 s3 s4 o0 o1 o2 o3
  have ST6 : Hid ((W6.alloc (.cells #[.func (.func 36) #[] #[], .func (.func 37) #[] #[]] 46)).heap[w.heap.size]? = some (.cells #[.int .i64 0, .int .i64 0, .int .u32 0, .int .i32 0] 24 (0, 0))) := Lib.hid (blk_alloc ST5.out _)
  have RK6 : Hid ((W6.alloc (.cells #[.func (.func 36) #[] #[], .func (.func 37) #[] #[]] 46)).heap[w.heap.size + 1]? = some (.cells #[.int .i64 0, .int .i64 0, .int .i64 0, .int .i32 0, .int .i32 0, .int .i64 0, .int .i64 0, .int .u32 0, .int .i32 0] 32 (0, 0))) := Lib.hid (blk_alloc RK5.out _)
  have SK6 : Hid ((W6.alloc (.cells #[.func (.func 36) #[] #[], .func (.func 37) #[] #[]] 46)).heap[w1.heap.size]? = some (.cells #[.int .i64 (m : Int), .bool pairs, .bool true, .func (.func (fa low)) #[] #[], .func (.func (fb low)) #[] #[]] 48 (0, 0))) := Lib.hid (blk_alloc SK5.out _)
  have OK6 : Hid ((W6.alloc (.cells #[.func (.func 36) #[] #[], .func (.func 37) #[] #[]] 46)).heap[w4.heap.size]? = some (.cells #[.func (.func 34) #[] #[], .func (.func 35) #[] #[], .func (.func 36) #[] #[], .func (.func 37) #[] #[]] 46 (0, 0))) := Lib.hid (blk_alloc OK5.out _)
  have PK6 : Hid ((W6.alloc (.cells #[.func (.func 36) #[] #[], .func (.func 37) #[] #[]] 46)).heap[W6.heap.size]? = some (.cells #[.func (.func 36) #[] #[], .func (.func 37) #[] #[]] 46 (0, 0))) := Lib.hid (heap_alloc_new _ _)
  have HB6 : Hid (Below w.heap.size w (W6.alloc (.cells #[.func (.func 36) #[] #[], .func (.func 37) #[] #[]] 46))) := Lib.hid (below_alloc HB5.out _)
  generalize W6.alloc (.cells #[.func (.func 36) #[] #[], .func (.func 37) #[] #[]] 46) = W7 at *
  clear ST5 RK5 SK5 OK5 HB5
  have s0 := blk_cell SK6.out 0
  have s1 := blk_cell SK6.out 1
  have s2 := blk_cell SK6.out 2
  have s3 := blk_cell SK6.out 3
  have s4 := blk_cell SK6.out 4
  have p0 := blk_cell PK6.out 0
  have p1 := blk_cell PK6.out 1
  go_quiet ((go_at_call 36; exact Calls.quiet_of_same (HNL.out _ (pw_below_drewN HB6.out _))))
  clear s0 s1 s2 s3 s4 p0 p1
  have ST7 : Hid ((W7.drewN nq).heap[w.heap.size]? = some (.cells #[.int .i64 0, .int .i64 0, .int .u32 0, .int .i32 0] 24 (0, 0))) := Lib.hid (blk_drewN ST6.out _)
  have RK7 : Hid ((W7.drewN nq).heap[w.heap.size + 1]? = some (.cells #[.int .i64 0, .int .i64 0, .int .i64 0, .int .i32 0, .int .i32 0, .int .i64 0, .int .i64 0, .int .u32 0, .int .i32 0] 32 (0, 0))) := Lib.hid (blk_drewN RK6.out _)
  have SK7 : Hid ((W7.drewN nq).heap[w1.heap.size]? = some (.cells #[.int .i64 (m : Int), .bool pairs, .bool true, .func (.func (fa low)) #[] #[], .func (.func (fb low)) #[] #[]] 48 (0, 0))) := Lib.hid (blk_drewN SK6.out _)
  have HB7 : Hid (Below w.heap.size w (W7.drewN nq)) := Lib.hid (pw_below_drewN HB6.out _)
  generalize W7.drewN nq = W8 at *
  clear ST6 RK6 SK6 HB6
  have s0 := blk_cell SK7.out 0
  have s1 := blk_cell SK7.out 1
  have s2 := blk_cell SK7.out 2
  have s3 := blk_cell SK7.out 3
  have s4 := blk_cell SK7.out 4
  have e0 := blk_cell ST7.out 0
  have e1 := blk_cell ST7.out 1
  have e2 := blk_cell ST7.out 2
  have e3 := blk_cell ST7.out 3
  have f0 := blk_frozen ST7.out 0
  have f1 := blk_frozen ST7.out 1
  have f2 := blk_frozen ST7.out 2
  have f3 := blk_frozen ST7.out 3
  have hy1 : ¬ w.heap.size = w1.heap.size := by omega
  have hy2 : ¬ w1.heap.size = w.heap.size := by omega
  go_wp2_with fail
  rw [rounds_succ]
  go_wp2_with fail
  clear e0 e1 e2 e3 f0 f1 f2 f3 s0 s1 s2 s3 s4
  have ST8 : Hid ((W8.setCell ⟨w.heap.size, 0, none⟩ (.int .i64 1)).heap[w.heap.size]? = some (.cells #[.int .i64 1, .int .i64 0, .int .u32 0, .int .i32 0] 24 (0, 0))) := Lib.hid (blk_set ST7.out 0 _)
  have RK8 : Hid ((W8.setCell ⟨w.heap.size, 0, none⟩ (.int .i64 1)).heap[w.heap.size + 1]? = some (.cells #[.int .i64 0, .int .i64 0, .int .i64 0, .int .i32 0, .int .i32 0, .int .i64 0, .int .i64 0, .int .u32 0, .int .i32 0] 32 (0, 0))) := Lib.hid (blk_far RK7.out (by show w.heap.size + 1 ≠ w.heap.size; omega) _)
  have SK8 : Hid ((W8.setCell ⟨w.heap.size, 0, none⟩ (.int .i64 1)).heap[w1.heap.size]? = some (.cells #[.int .i64 (m : Int), .bool pairs, .bool true, .func (.func (fa low)) #[] #[], .func (.func (fb low)) #[] #[]] 48 (0, 0))) := Lib.hid (blk_far SK7.out (by show w1.heap.size ≠ w.heap.size; omega) _)
  have HB8 : Hid (Below w.heap.size w (W8.setCell ⟨w.heap.size, 0, none⟩ (.int .i64 1))) := Lib.hid (HB7.out.setCell (p := ⟨w.heap.size, 0, none⟩) (Nat.le_refl _) _)
  generalize W8.setCell ⟨w.heap.size, 0, none⟩ (.int .i64 1) = W9 at *
  clear ST7 RK7 SK7 HB7
  have hc := sgetC (marks := true) (low := low) W9 (Kd.C_below HC.out HB8.out) Hc.out Hb.out Hn.out.1 Hn.out.2 HG.out
  rw [shV_eq] at hc
  refine hc.mono ?_
  clear hc
  rintro en w10 ⟨rfl, hb10⟩
  have ST9 : Hid ((w10).heap[w.heap.size]? = some (.cells #[.int .i64 1, .int .i64 0, .int .u32 0, .int .i32 0] 24 (0, 0))) := Lib.hid (blk_below ST8.out hb10)
  have RK9 : Hid ((w10).heap[w.heap.size + 1]? = some (.cells #[.int .i64 0, .int .i64 0, .int .i64 0, .int .i32 0, .int .i32 0, .int .i64 0, .int .i64 0, .int .u32 0, .int .i32 0] 32 (0, 0))) := Lib.hid (blk_below RK8.out hb10)
  have SK9 : Hid ((w10).heap[w1.heap.size]? = some (.cells #[.int .i64 (m : Int), .bool pairs, .bool true, .func (.func (fa low)) #[] #[], .func (.func (fb low)) #[] #[]] 48 (0, 0))) := Lib.hid (blk_below SK8.out hb10)
  have HB9 : Hid (Below w.heap.size w (w10)) := Lib.hid (on HB8.out hb10)
  clear ST8 RK8 SK8 HB8
  clear hb10
  have hg3 : w1.heap.size < w10.heap.size := blk_lt SK9.out
  have hg4 : w.heap.size + 1 < w10.heap.size := by omega
  have hg5 : w.heap.size < w10.heap.size := by omega
  have e0 := blk_cell ST9.out 0
  have e1 := blk_cell ST9.out 1
  have e2 := blk_cell ST9.out 2
  have e3 := blk_cell ST9.out 3
  have r0 := blk_cell RK9.out 0
  have r1 := blk_cell RK9.out 1
  have r2 := blk_cell RK9.out 2
  have r3 := blk_cell RK9.out 3
  have r4 := blk_cell RK9.out 4
  have r5 := blk_cell RK9.out 5
  have r6 := blk_cell RK9.out 6
  have r7 := blk_cell RK9.out 7
  have r8 := blk_cell RK9.out 8
  have q0 := blk_frozen RK9.out 0
  have q1 := blk_frozen RK9.out 1
  have q2 := blk_frozen RK9.out 2
  have q3 := blk_frozen RK9.out 3
  have q4 := blk_frozen RK9.out 4
  have q5 := blk_frozen RK9.out 5
  have q6 := blk_frozen RK9.out 6
  have q7 := blk_frozen RK9.out 7
  have q8 := blk_frozen RK9.out 8
  unfold gotV
  go_wp2_with fail
  refine bodyPost_ret (results_cell_row rfl _ _ (w.heap.size + 1) 32 _ (0, 0) _ rfl (blk_alloc (put9 RK9.out _ _ _ _ _ _ _ _ _) _) Try.underlying32 rfl (by kernel_rfl)) rfl ?_
  exact ⟨rfl, below_alloc (below9 HB9.out (Nat.le_succ _) _ _ _ _ _ _ _ _ _) _⟩
end Go.Proofs.Ytflmpdfcbdfabaa.Wd
