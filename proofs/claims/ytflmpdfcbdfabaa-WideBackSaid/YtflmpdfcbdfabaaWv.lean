/- wide.Set, walked: with a mark. -/
import Derived.Test.YtflmpdfcbdfabaaWr
namespace Go.Proofs.Ytflmpdfcbdfabaa.Wd
open Go.RowKit Go.Proofs.YtflmpdfcbdfabaaW.PrintWords Go.Proofs.YtflmpdfcbdfabaaW.PrintLast Go.Proofs.YtflmpdfcbdfabaaW.PrintMore
attribute [local go_sem ↓] Go.wp_at_zero Go.wp_at_succ
theorem put4 {w : World} {g : Nat} {t : TypeId} {o0 o1 o2 o3 : Value} (h : w.heap[g]? = some (.cells #[o0, o1, o2, o3] t (0, 0))) (u : Value) : (w.setCell ⟨g, 0, none⟩ u).heap[g]? = some (.cells #[u, o1, o2, o3] t (0, 0)) := by
  simpa using blk_set h 0 u
set_option maxHeartbeats 4000000 in
set_option maxRecDepth 100000 in
theorem set_mOne2 (kind u x y : Int) (t : Bool) (w : World) (hk : shp kind 0 = some (2, true, true, false)) (hs : Scal u) (hsp : ∀ W, Calls Try.prog 20 #[.int .i32 u] W fun e w' => e = .returned (.tuple #[.int .i32 x, .int .i32 y, .bool t]) ∧ Drawn0 W w') (ht : t = false) :
    Calls Try.prog 9 #[.int .i64 kind, stV 0 0 0 0, .int .i32 u] w fun en w' => en = .returned (putV 0 (strOfNums (un false 2 65279 ++ un false 2 u)) 1) ∧ Below w.heap.size w w' := by
  have hf : Fit true 0 0 0 0 := ⟨rfl, rfl, rfl, .inl rfl⟩
  have HB0 : Hid (∀ W, Calls Try.prog 35 #[.int .u32 65279, .int .i64 2] W (BytesEnd W (un false 2 65279))) := Lib.hid (fun W => bigS 2 65279 W (by decide))
  have hl0 : (un false 2 65279).length ≤ 4 := by have := un_len false (show (2 : Int) = 2 ∨ (2 : Int) = 4 by decide) 65279; omega
  generalize un false 2 65279 = l0 at *
  have HBY : Hid (∀ W, Calls Try.prog 35 #[.int .u32 u, .int .i64 2] W (BytesEnd W (un false 2 u))) := Lib.hid (fun W => bigS 2 u W (by decide))
  have hl4 : (un false 2 u).length ≤ 4 := by have := un_len false (show (2 : Int) = 2 ∨ (2 : Int) = 4 by decide) u; omega
  generalize un false 2 u = l at *
  have hxm : u % 4294967296 = u := by unfold Scal at hs; omega
  have HS : Hid (decide (Scal u) = true) := Lib.hid (decide_eq_true hs)
  have HSP := Lib.hid hsp
  have HK := Lib.hid hk
  have HF := Lib.hid hf
  clear hk hf hsp hs
  subst ht
  unfold stV
  go_enter Try.func9, Try.ntmps9
  go_wp2_with fail
  refine (shapeC _ HK.out).mono ?_
  rintro e w1 ⟨rfl, hb1⟩
  rw [shV_eq, show fa false = 34 from rfl, show fb false = 35 from rfl]
  have ST0 : Hid ((w1).heap[w.heap.size]? = some (.cells #[.int .i64 0, .int .i64 0, .int .u32 0, .int .i32 0] 24 (0, 0))) := Lib.hid (blk_below (blk_alloc (heap_alloc_new _ _) _) hb1)
  have RK0 : Hid ((w1).heap[w.heap.size + 1]? = some (.cells #[.int .i64 0, .string ⟨#[]⟩, .int .i64 0, .int .i64 0, .int .u32 0, .int .i32 0] 27 (0, 0))) := Lib.hid (blk_below (blk_second _ _ _) hb1)
  have HB0 : Hid (Below w.heap.size w (w1)) := Lib.hid (on (below_alloc (below_alloc (Below.refl _ _) _) _) hb1)
  have hg0 : w.heap.size + 1 < w1.heap.size := blk_lt RK0.out
  clear hb1
  have hg1 : w.heap.size < w1.heap.size := by omega
  have e0 := blk_cell ST0.out 0
  have e1 := blk_cell ST0.out 1
  have e2 := blk_cell ST0.out 2
  have e3 := blk_cell ST0.out 3
  go_wp2_with fail
  have hc := fitsC 2 0 0 0 0 true true false (w1.alloc (.cells #[.int .i64 2, .bool true, .bool true, .func (.func 34) #[] #[], .func (.func 35) #[] #[]] 48)) HF.out
  rw [shV_eq, show fa false = 34 from rfl, show fb false = 35 from rfl] at hc
  unfold stV at hc
  refine hc.mono ?_
  clear hc
  rintro e w2 ⟨rfl, hb2⟩
  clear e0 e1 e2 e3
  have ST1 : Hid ((w2).heap[w.heap.size]? = some (.cells #[.int .i64 0, .int .i64 0, .int .u32 0, .int .i32 0] 24 (0, 0))) := Lib.hid (blk_below (blk_alloc ST0.out _) hb2)
  have RK1 : Hid ((w2).heap[w.heap.size + 1]? = some (.cells #[.int .i64 0, .string ⟨#[]⟩, .int .i64 0, .int .i64 0, .int .u32 0, .int .i32 0] 27 (0, 0))) := Lib.hid (blk_below (blk_alloc RK0.out _) hb2)
  have SK1 : Hid ((w2).heap[w1.heap.size]? = some (.cells #[.int .i64 2, .bool true, .bool true, .func (.func 34) #[] #[], .func (.func 35) #[] #[]] 48 (0, 0))) := Lib.hid (blk_below (heap_alloc_new _ _) hb2)
  have HB1 : Hid (Below w.heap.size w (w2)) := Lib.hid (on (below_alloc HB0.out _) hb2)
  clear hb2 ST0 RK0 HB0
  have hg2 : w1.heap.size < w2.heap.size := blk_lt SK1.out
  have s0 := blk_cell SK1.out 0
  have s1 := blk_cell SK1.out 1
  have s2 := blk_cell SK1.out 2
  have s3 := blk_cell SK1.out 3
  have s4 := blk_cell SK1.out 4
  go_wp2_with fail
  refine (scalarC u _).mono ?_
  rintro e w3 ⟨rfl, hd3⟩
  rw [HS.out]
  clear s0 s1 s2 s3 s4
  have hb3 := hd3.below
  have ST2 : Hid ((w3).heap[w.heap.size]? = some (.cells #[.int .i64 0, .int .i64 0, .int .u32 0, .int .i32 0] 24 (0, 0))) := Lib.hid (blk_below ST1.out hb3)
  have RK2 : Hid ((w3).heap[w.heap.size + 1]? = some (.cells #[.int .i64 0, .string ⟨#[]⟩, .int .i64 0, .int .i64 0, .int .u32 0, .int .i32 0] 27 (0, 0))) := Lib.hid (blk_below RK1.out hb3)
  have SK2 : Hid ((w3).heap[w1.heap.size]? = some (.cells #[.int .i64 2, .bool true, .bool true, .func (.func 34) #[] #[], .func (.func 35) #[] #[]] 48 (0, 0))) := Lib.hid (blk_below SK1.out hb3)
  have HB2 : Hid (Below w.heap.size w (w3)) := Lib.hid (on HB1.out hb3)
  clear hb3 hd3 ST1 RK1 SK1 HB1
  have hg5 : w1.heap.size < w3.heap.size := blk_lt SK2.out
  have hg6 : w.heap.size + 1 < w3.heap.size := by omega
  have hg7 : w.heap.size < w3.heap.size := by omega
  have e0 := blk_cell ST2.out 0
  have e1 := blk_cell ST2.out 1
  have e2 := blk_cell ST2.out 2
  have e3 := blk_cell ST2.out 3
  have s0 := blk_cell SK2.out 0
  have s1 := blk_cell SK2.out 1
  have s2 := blk_cell SK2.out 2
  have s3 := blk_cell SK2.out 3
  have s4 := blk_cell SK2.out 4
  have f0 := blk_frozen ST2.out 0
  go_wp2_with fail
  refine (HB0.out _).mono ?_
  rintro e w4 ⟨v4, rfl, hown4, hb4⟩
  clear e0 e1 e2 e3
  clear s0 s1 s2 s3 s4
  clear f0
  have ST3 : Hid ((w4).heap[w.heap.size]? = some (.cells #[.int .i64 0, .int .i64 0, .int .u32 0, .int .i32 0] 24 (0, 0))) := Lib.hid (blk_below ST2.out hb4)
  have RK3 : Hid ((w4).heap[w.heap.size + 1]? = some (.cells #[.int .i64 0, .string ⟨#[]⟩, .int .i64 0, .int .i64 0, .int .u32 0, .int .i32 0] 27 (0, 0))) := Lib.hid (blk_below RK2.out hb4)
  have SK3 : Hid ((w4).heap[w1.heap.size]? = some (.cells #[.int .i64 2, .bool true, .bool true, .func (.func 34) #[] #[], .func (.func 35) #[] #[]] 48 (0, 0))) := Lib.hid (blk_below SK2.out hb4)
  have HB3 : Hid (Below w.heap.size w (w4)) := Lib.hid (on HB2.out hb4)
  have HO4 := Lib.hid hown4
  have hz4 : w3.heap.size ≤ w4.heap.size := hb4.size
  clear hb4 hown4 ST2 RK2 SK2 HB2
  have e0 := blk_cell ST3.out 0
  have e1 := blk_cell ST3.out 1
  have e2 := blk_cell ST3.out 2
  have e3 := blk_cell ST3.out 3
  have f0 := blk_frozen ST3.out 0
  have hg8 : w.heap.size < w4.heap.size := by omega
  go_wp2_with fail
  refine (HSP.out _).mono ?_
  rintro e w5 ⟨rfl, hd5⟩
  clear e0 e1 e2 e3
  clear f0
  have hb5 := hd5.below
  have ST4 : Hid ((w5).heap[w.heap.size]? = some (.cells #[.int .i64 1, .int .i64 0, .int .u32 0, .int .i32 0] 24 (0, 0))) := Lib.hid (blk_below (put4 ST3.out _) hb5)
  have RK4 : Hid ((w5).heap[w.heap.size + 1]? = some (.cells #[.int .i64 0, .string ⟨#[]⟩, .int .i64 0, .int .i64 0, .int .u32 0, .int .i32 0] 27 (0, 0))) := Lib.hid (blk_below (blk_far RK3.out (show w.heap.size + 1 ≠ w.heap.size by omega) _) hb5)
  have SK4 : Hid ((w5).heap[w1.heap.size]? = some (.cells #[.int .i64 2, .bool true, .bool true, .func (.func 34) #[] #[], .func (.func 35) #[] #[]] 48 (0, 0))) := Lib.hid (blk_below (blk_far SK3.out (show w1.heap.size ≠ w.heap.size by omega) _) hb5)
  have HB4 : Hid (Below w.heap.size w (w5)) := Lib.hid (on (HB3.out.setCell (Nat.le_refl _) _) hb5)
  have HO5 : Hid (w5.ownsRow w3.heap.size 5 1 v4 l0.length (nums .u8 l0)) := Lib.hid (own_on (ownsRow_setCell_below HO4.out hg7 _) hb5)
  have hz5 : w3.heap.size ≤ w5.heap.size := by have := hb5.size; simp at this; omega
  clear hb5 hd5 ST3 RK3 SK3 HB3 HO4
  have hg9 : w1.heap.size < w5.heap.size := blk_lt SK4.out
  have hB1 : w1.heap.size < w3.heap.size := hg5
  have hg10 : w.heap.size + 1 < w5.heap.size := by omega
  have s0 := blk_cell SK4.out 0
  have s1 := blk_cell SK4.out 1
  have s2 := blk_cell SK4.out 2
  have s3 := blk_cell SK4.out 3
  have s4 := blk_cell SK4.out 4
  go_wp2_with fail
  refine (HBY.out _).mono ?_
  rintro e w6 ⟨v6, rfl, hown6, hb6⟩
  clear s0 s1 s2 s3 s4
  obtain ⟨A6, c6, rfl, hr6⟩ := own_reads hown6
  have ST5 : Hid ((w6).heap[w.heap.size]? = some (.cells #[.int .i64 1, .int .i64 0, .int .u32 0, .int .i32 0] 24 (0, 0))) := Lib.hid (blk_below ST4.out hb6)
  have RK5 : Hid ((w6).heap[w.heap.size + 1]? = some (.cells #[.int .i64 0, .string ⟨#[]⟩, .int .i64 0, .int .i64 0, .int .u32 0, .int .i32 0] 27 (0, 0))) := Lib.hid (blk_below RK4.out hb6)
  have HB5 : Hid (Below w.heap.size w (w6)) := Lib.hid (on HB4.out hb6)
  have HO6 : Hid (w6.ownsRow w3.heap.size 5 1 v4 l0.length (nums .u8 l0)) := Lib.hid (own_on HO5.out hb6)
  have HR6 := Lib.hid hr6
  have hz6 : w3.heap.size ≤ w6.heap.size := by have := hb6.size; omega
  clear hr6 hown6 hb6 ST4 RK4 SK4 HB4 HO5
  go_upto_region 16 with (at_builtin; refine print_append_row w3.heap.size rfl (.tmp 90) (.tmp 98) 30 5 .u8 1 rfl Try.underlying30 info5 (by omega) v4 l0 l A6 l.length c6 rfl rfl HO6.out HR6.out (Below.refl w3.heap.size w6) hz6 (by omega) ?_; intro v8 w8 hown8 hb8 hg8' hat8; clear hg8' hat8; have HO8 : Hid (w8.ownsRow w3.heap.size 5 1 v8 (l0 ++ l).length (nums .u8 (l0 ++ l))) := hown8; have HX8 := Lib.hid hb8; clear hown8 hb8)
  have ST6 : Hid ((w8).heap[w.heap.size]? = some (.cells #[.int .i64 1, .int .i64 0, .int .u32 0, .int .i32 0] 24 (0, 0))) := Lib.hid (blk_b ST5.out HX8.out (by omega))
  have RK6 : Hid ((w8).heap[w.heap.size + 1]? = some (.cells #[.int .i64 0, .string ⟨#[]⟩, .int .i64 0, .int .i64 0, .int .u32 0, .int .i32 0] 27 (0, 0))) := Lib.hid (blk_b RK5.out HX8.out (by omega))
  have HB6 : Hid (Below w.heap.size w (w8)) := Lib.hid (HB5.out.trans (HX8.out.mono (by omega)))
  clear ST5 RK5 HB5 HX8 HO6
  obtain ⟨A8, c8, rfl, hr8⟩ := own_reads HO8.out
  have hcv : (convert 30 9 (.slice A8 (l0 ++ l).length c8)).run Try.prog w8 = .ok (.string (strOfNums (l0 ++ l))) w8 := Kd.C_string (P := Try.prog) Try.underlying30 Try.underlying5 Try.underlying9 (Kd.C_of_reads (d := (0 : Int)) hr8)
  clear hr8
  obtain ⟨S8, hS8⟩ : ∃ S, S = strOfNums (l0 ++ l) := ⟨_, rfl⟩
  rw [← hS8] at hcv
  simp only [List.length_append] at hcv
  have HS8 := Lib.hid hS8
  clear hS8
  have e0 := blk_cell ST6.out 0
  have e1 := blk_cell ST6.out 1
  have e2 := blk_cell ST6.out 2
  have e3 := blk_cell ST6.out 3
  have r0 := blk_cell RK6.out 0
  have r1 := blk_cell RK6.out 1
  have r2 := blk_cell RK6.out 2
  have r3 := blk_cell RK6.out 3
  have r4 := blk_cell RK6.out 4
  have r5 := blk_cell RK6.out 5
  have q0 := blk_frozen RK6.out 0
  have q1 := blk_frozen RK6.out 1
  have q2 := blk_frozen RK6.out 2
  have q3 := blk_frozen RK6.out 3
  have q4 := blk_frozen RK6.out 4
  have q5 := blk_frozen RK6.out 5
  go_wp2_with fail
  refine bodyPost_ret (results_cell_row rfl _ _ (w.heap.size + 1) 27 _ (0, 0) _ rfl (put6 RK6.out _ _ _ _ _ _) Try.underlying27 rfl (by kernel_rfl)) rfl ?_
  exact ⟨by rw [← HS8.out]; rfl, below6 HB6.out (Nat.le_succ _) _ _ _ _ _ _⟩
set_option maxHeartbeats 4000000 in
set_option maxRecDepth 100000 in
theorem set_mOne4 (kind u x y : Int) (t : Bool) (w : World) (hk : shp kind 0 = some (4, false, true, false)) (hs : Scal u) (hsp : ∀ W, Calls Try.prog 20 #[.int .i32 u] W fun e w' => e = .returned (.tuple #[.int .i32 x, .int .i32 y, .bool t]) ∧ Drawn0 W w') :
    Calls Try.prog 9 #[.int .i64 kind, stV 0 0 0 0, .int .i32 u] w fun en w' => en = .returned (putV 0 (strOfNums (un false 4 65279 ++ un false 4 u)) 1) ∧ Below w.heap.size w w' := by
  have hf : Fit true 0 0 0 0 := ⟨rfl, rfl, rfl, .inl rfl⟩
  have HB0 : Hid (∀ W, Calls Try.prog 35 #[.int .u32 65279, .int .i64 4] W (BytesEnd W (un false 4 65279))) := Lib.hid (fun W => bigS 4 65279 W (by decide))
  have hl0 : (un false 4 65279).length ≤ 4 := by have := un_len false (show (4 : Int) = 2 ∨ (4 : Int) = 4 by decide) 65279; omega
  generalize un false 4 65279 = l0 at *
  have HBY : Hid (∀ W, Calls Try.prog 35 #[.int .u32 u, .int .i64 4] W (BytesEnd W (un false 4 u))) := Lib.hid (fun W => bigS 4 u W (by decide))
  have hl4 : (un false 4 u).length ≤ 4 := by have := un_len false (show (4 : Int) = 2 ∨ (4 : Int) = 4 by decide) u; omega
  generalize un false 4 u = l at *
  have hxm : u % 4294967296 = u := by unfold Scal at hs; omega
  have HS : Hid (decide (Scal u) = true) := Lib.hid (decide_eq_true hs)
  have HSP := Lib.hid hsp
  have HK := Lib.hid hk
  have HF := Lib.hid hf
  clear hk hf hsp hs
  cases t
  · skip
    unfold stV
    go_enter Try.func9, Try.ntmps9
    go_wp2_with fail
    refine (shapeC _ HK.out).mono ?_
    rintro e w1 ⟨rfl, hb1⟩
    rw [shV_eq, show fa false = 34 from rfl, show fb false = 35 from rfl]
    have ST0 : Hid ((w1).heap[w.heap.size]? = some (.cells #[.int .i64 0, .int .i64 0, .int .u32 0, .int .i32 0] 24 (0, 0))) := Lib.hid (blk_below (blk_alloc (heap_alloc_new _ _) _) hb1)
    have RK0 : Hid ((w1).heap[w.heap.size + 1]? = some (.cells #[.int .i64 0, .string ⟨#[]⟩, .int .i64 0, .int .i64 0, .int .u32 0, .int .i32 0] 27 (0, 0))) := Lib.hid (blk_below (blk_second _ _ _) hb1)
    have HB0 : Hid (Below w.heap.size w (w1)) := Lib.hid (on (below_alloc (below_alloc (Below.refl _ _) _) _) hb1)
    have hg0 : w.heap.size + 1 < w1.heap.size := blk_lt RK0.out
    clear hb1
    have hg1 : w.heap.size < w1.heap.size := by omega
    have e0 := blk_cell ST0.out 0
    have e1 := blk_cell ST0.out 1
    have e2 := blk_cell ST0.out 2
    have e3 := blk_cell ST0.out 3
    go_wp2_with fail
    have hc := fitsC 4 0 0 0 0 false true false (w1.alloc (.cells #[.int .i64 4, .bool false, .bool true, .func (.func 34) #[] #[], .func (.func 35) #[] #[]] 48)) HF.out
    rw [shV_eq, show fa false = 34 from rfl, show fb false = 35 from rfl] at hc
    unfold stV at hc
    refine hc.mono ?_
    clear hc
    rintro e w2 ⟨rfl, hb2⟩
    clear e0 e1 e2 e3
    have ST1 : Hid ((w2).heap[w.heap.size]? = some (.cells #[.int .i64 0, .int .i64 0, .int .u32 0, .int .i32 0] 24 (0, 0))) := Lib.hid (blk_below (blk_alloc ST0.out _) hb2)
    have RK1 : Hid ((w2).heap[w.heap.size + 1]? = some (.cells #[.int .i64 0, .string ⟨#[]⟩, .int .i64 0, .int .i64 0, .int .u32 0, .int .i32 0] 27 (0, 0))) := Lib.hid (blk_below (blk_alloc RK0.out _) hb2)
    have SK1 : Hid ((w2).heap[w1.heap.size]? = some (.cells #[.int .i64 4, .bool false, .bool true, .func (.func 34) #[] #[], .func (.func 35) #[] #[]] 48 (0, 0))) := Lib.hid (blk_below (heap_alloc_new _ _) hb2)
    have HB1 : Hid (Below w.heap.size w (w2)) := Lib.hid (on (below_alloc HB0.out _) hb2)
    clear hb2 ST0 RK0 HB0
    have hg2 : w1.heap.size < w2.heap.size := blk_lt SK1.out
    have s0 := blk_cell SK1.out 0
    have s1 := blk_cell SK1.out 1
    have s2 := blk_cell SK1.out 2
    have s3 := blk_cell SK1.out 3
    have s4 := blk_cell SK1.out 4
    go_wp2_with fail
    refine (scalarC u _).mono ?_
    rintro e w3 ⟨rfl, hd3⟩
    rw [HS.out]
    clear s0 s1 s2 s3 s4
    have hb3 := hd3.below
    have ST2 : Hid ((w3).heap[w.heap.size]? = some (.cells #[.int .i64 0, .int .i64 0, .int .u32 0, .int .i32 0] 24 (0, 0))) := Lib.hid (blk_below ST1.out hb3)
    have RK2 : Hid ((w3).heap[w.heap.size + 1]? = some (.cells #[.int .i64 0, .string ⟨#[]⟩, .int .i64 0, .int .i64 0, .int .u32 0, .int .i32 0] 27 (0, 0))) := Lib.hid (blk_below RK1.out hb3)
    have SK2 : Hid ((w3).heap[w1.heap.size]? = some (.cells #[.int .i64 4, .bool false, .bool true, .func (.func 34) #[] #[], .func (.func 35) #[] #[]] 48 (0, 0))) := Lib.hid (blk_below SK1.out hb3)
    have HB2 : Hid (Below w.heap.size w (w3)) := Lib.hid (on HB1.out hb3)
    clear hb3 hd3 ST1 RK1 SK1 HB1
    have hg5 : w1.heap.size < w3.heap.size := blk_lt SK2.out
    have hg6 : w.heap.size + 1 < w3.heap.size := by omega
    have hg7 : w.heap.size < w3.heap.size := by omega
    have e0 := blk_cell ST2.out 0
    have e1 := blk_cell ST2.out 1
    have e2 := blk_cell ST2.out 2
    have e3 := blk_cell ST2.out 3
    have s0 := blk_cell SK2.out 0
    have s1 := blk_cell SK2.out 1
    have s2 := blk_cell SK2.out 2
    have s3 := blk_cell SK2.out 3
    have s4 := blk_cell SK2.out 4
    have f0 := blk_frozen ST2.out 0
    go_wp2_with fail
    refine (HB0.out _).mono ?_
    rintro e w4 ⟨v4, rfl, hown4, hb4⟩
    clear e0 e1 e2 e3
    clear s0 s1 s2 s3 s4
    clear f0
    have ST3 : Hid ((w4).heap[w.heap.size]? = some (.cells #[.int .i64 0, .int .i64 0, .int .u32 0, .int .i32 0] 24 (0, 0))) := Lib.hid (blk_below ST2.out hb4)
    have RK3 : Hid ((w4).heap[w.heap.size + 1]? = some (.cells #[.int .i64 0, .string ⟨#[]⟩, .int .i64 0, .int .i64 0, .int .u32 0, .int .i32 0] 27 (0, 0))) := Lib.hid (blk_below RK2.out hb4)
    have SK3 : Hid ((w4).heap[w1.heap.size]? = some (.cells #[.int .i64 4, .bool false, .bool true, .func (.func 34) #[] #[], .func (.func 35) #[] #[]] 48 (0, 0))) := Lib.hid (blk_below SK2.out hb4)
    have HB3 : Hid (Below w.heap.size w (w4)) := Lib.hid (on HB2.out hb4)
    have HO4 := Lib.hid hown4
    have hz4 : w3.heap.size ≤ w4.heap.size := hb4.size
    clear hb4 hown4 ST2 RK2 SK2 HB2
    have e0 := blk_cell ST3.out 0
    have e1 := blk_cell ST3.out 1
    have e2 := blk_cell ST3.out 2
    have e3 := blk_cell ST3.out 3
    have f0 := blk_frozen ST3.out 0
    have hg8 : w.heap.size < w4.heap.size := by omega
    go_wp2_with fail
    refine (HSP.out _).mono ?_
    rintro e w5 ⟨rfl, hd5⟩
    clear e0 e1 e2 e3
    clear f0
    have hb5 := hd5.below
    have ST4 : Hid ((w5).heap[w.heap.size]? = some (.cells #[.int .i64 1, .int .i64 0, .int .u32 0, .int .i32 0] 24 (0, 0))) := Lib.hid (blk_below (put4 ST3.out _) hb5)
    have RK4 : Hid ((w5).heap[w.heap.size + 1]? = some (.cells #[.int .i64 0, .string ⟨#[]⟩, .int .i64 0, .int .i64 0, .int .u32 0, .int .i32 0] 27 (0, 0))) := Lib.hid (blk_below (blk_far RK3.out (show w.heap.size + 1 ≠ w.heap.size by omega) _) hb5)
    have SK4 : Hid ((w5).heap[w1.heap.size]? = some (.cells #[.int .i64 4, .bool false, .bool true, .func (.func 34) #[] #[], .func (.func 35) #[] #[]] 48 (0, 0))) := Lib.hid (blk_below (blk_far SK3.out (show w1.heap.size ≠ w.heap.size by omega) _) hb5)
    have HB4 : Hid (Below w.heap.size w (w5)) := Lib.hid (on (HB3.out.setCell (Nat.le_refl _) _) hb5)
    have HO5 : Hid (w5.ownsRow w3.heap.size 5 1 v4 l0.length (nums .u8 l0)) := Lib.hid (own_on (ownsRow_setCell_below HO4.out hg7 _) hb5)
    have hz5 : w3.heap.size ≤ w5.heap.size := by have := hb5.size; simp at this; omega
    clear hb5 hd5 ST3 RK3 SK3 HB3 HO4
    have hg9 : w1.heap.size < w5.heap.size := blk_lt SK4.out
    have hB1 : w1.heap.size < w3.heap.size := hg5
    have hg10 : w.heap.size + 1 < w5.heap.size := by omega
    have s0 := blk_cell SK4.out 0
    have s1 := blk_cell SK4.out 1
    have s2 := blk_cell SK4.out 2
    have s3 := blk_cell SK4.out 3
    have s4 := blk_cell SK4.out 4
    go_wp2_with fail
    refine (HBY.out _).mono ?_
    rintro e w6 ⟨v6, rfl, hown6, hb6⟩
    clear s0 s1 s2 s3 s4
    obtain ⟨A6, c6, rfl, hr6⟩ := own_reads hown6
    have ST5 : Hid ((w6).heap[w.heap.size]? = some (.cells #[.int .i64 1, .int .i64 0, .int .u32 0, .int .i32 0] 24 (0, 0))) := Lib.hid (blk_below ST4.out hb6)
    have RK5 : Hid ((w6).heap[w.heap.size + 1]? = some (.cells #[.int .i64 0, .string ⟨#[]⟩, .int .i64 0, .int .i64 0, .int .u32 0, .int .i32 0] 27 (0, 0))) := Lib.hid (blk_below RK4.out hb6)
    have HB5 : Hid (Below w.heap.size w (w6)) := Lib.hid (on HB4.out hb6)
    have HO6 : Hid (w6.ownsRow w3.heap.size 5 1 v4 l0.length (nums .u8 l0)) := Lib.hid (own_on HO5.out hb6)
    have HR6 := Lib.hid hr6
    have hz6 : w3.heap.size ≤ w6.heap.size := by have := hb6.size; omega
    clear hr6 hown6 hb6 ST4 RK4 SK4 HB4 HO5
    go_upto_region 16 with (at_builtin; refine print_append_row w3.heap.size rfl (.tmp 90) (.tmp 98) 30 5 .u8 1 rfl Try.underlying30 info5 (by omega) v4 l0 l A6 l.length c6 rfl rfl HO6.out HR6.out (Below.refl w3.heap.size w6) hz6 (by omega) ?_; intro v8 w8 hown8 hb8 hg8' hat8; clear hg8' hat8; have HO8 : Hid (w8.ownsRow w3.heap.size 5 1 v8 (l0 ++ l).length (nums .u8 (l0 ++ l))) := hown8; have HX8 := Lib.hid hb8; clear hown8 hb8)
    have ST6 : Hid ((w8).heap[w.heap.size]? = some (.cells #[.int .i64 1, .int .i64 0, .int .u32 0, .int .i32 0] 24 (0, 0))) := Lib.hid (blk_b ST5.out HX8.out (by omega))
    have RK6 : Hid ((w8).heap[w.heap.size + 1]? = some (.cells #[.int .i64 0, .string ⟨#[]⟩, .int .i64 0, .int .i64 0, .int .u32 0, .int .i32 0] 27 (0, 0))) := Lib.hid (blk_b RK5.out HX8.out (by omega))
    have HB6 : Hid (Below w.heap.size w (w8)) := Lib.hid (HB5.out.trans (HX8.out.mono (by omega)))
    clear ST5 RK5 HB5 HX8 HO6
    obtain ⟨A8, c8, rfl, hr8⟩ := own_reads HO8.out
    have hcv : (convert 30 9 (.slice A8 (l0 ++ l).length c8)).run Try.prog w8 = .ok (.string (strOfNums (l0 ++ l))) w8 := Kd.C_string (P := Try.prog) Try.underlying30 Try.underlying5 Try.underlying9 (Kd.C_of_reads (d := (0 : Int)) hr8)
    clear hr8
    obtain ⟨S8, hS8⟩ : ∃ S, S = strOfNums (l0 ++ l) := ⟨_, rfl⟩
    rw [← hS8] at hcv
    simp only [List.length_append] at hcv
    have HS8 := Lib.hid hS8
    clear hS8
    have e0 := blk_cell ST6.out 0
    have e1 := blk_cell ST6.out 1
    have e2 := blk_cell ST6.out 2
    have e3 := blk_cell ST6.out 3
    have r0 := blk_cell RK6.out 0
    have r1 := blk_cell RK6.out 1
    have r2 := blk_cell RK6.out 2
    have r3 := blk_cell RK6.out 3
    have r4 := blk_cell RK6.out 4
    have r5 := blk_cell RK6.out 5
    have q0 := blk_frozen RK6.out 0
    have q1 := blk_frozen RK6.out 1
    have q2 := blk_frozen RK6.out 2
    have q3 := blk_frozen RK6.out 3
    have q4 := blk_frozen RK6.out 4
    have q5 := blk_frozen RK6.out 5
    go_wp2_with fail
    refine bodyPost_ret (results_cell_row rfl _ _ (w.heap.size + 1) 27 _ (0, 0) _ rfl (put6 RK6.out _ _ _ _ _ _) Try.underlying27 rfl (by kernel_rfl)) rfl ?_
    exact ⟨by rw [← HS8.out]; rfl, below6 HB6.out (Nat.le_succ _) _ _ _ _ _ _⟩
  · skip
    unfold stV
    go_enter Try.func9, Try.ntmps9
    go_wp2_with fail
    refine (shapeC _ HK.out).mono ?_
    rintro e w1 ⟨rfl, hb1⟩
    rw [shV_eq, show fa false = 34 from rfl, show fb false = 35 from rfl]
    have ST0 : Hid ((w1).heap[w.heap.size]? = some (.cells #[.int .i64 0, .int .i64 0, .int .u32 0, .int .i32 0] 24 (0, 0))) := Lib.hid (blk_below (blk_alloc (heap_alloc_new _ _) _) hb1)
    have RK0 : Hid ((w1).heap[w.heap.size + 1]? = some (.cells #[.int .i64 0, .string ⟨#[]⟩, .int .i64 0, .int .i64 0, .int .u32 0, .int .i32 0] 27 (0, 0))) := Lib.hid (blk_below (blk_second _ _ _) hb1)
    have HB0 : Hid (Below w.heap.size w (w1)) := Lib.hid (on (below_alloc (below_alloc (Below.refl _ _) _) _) hb1)
    have hg0 : w.heap.size + 1 < w1.heap.size := blk_lt RK0.out
    clear hb1
    have hg1 : w.heap.size < w1.heap.size := by omega
    have e0 := blk_cell ST0.out 0
    have e1 := blk_cell ST0.out 1
    have e2 := blk_cell ST0.out 2
    have e3 := blk_cell ST0.out 3
    go_wp2_with fail
    have hc := fitsC 4 0 0 0 0 false true false (w1.alloc (.cells #[.int .i64 4, .bool false, .bool true, .func (.func 34) #[] #[], .func (.func 35) #[] #[]] 48)) HF.out
    rw [shV_eq, show fa false = 34 from rfl, show fb false = 35 from rfl] at hc
    unfold stV at hc
    refine hc.mono ?_
    clear hc
    rintro e w2 ⟨rfl, hb2⟩
    clear e0 e1 e2 e3
    have ST1 : Hid ((w2).heap[w.heap.size]? = some (.cells #[.int .i64 0, .int .i64 0, .int .u32 0, .int .i32 0] 24 (0, 0))) := Lib.hid (blk_below (blk_alloc ST0.out _) hb2)
    have RK1 : Hid ((w2).heap[w.heap.size + 1]? = some (.cells #[.int .i64 0, .string ⟨#[]⟩, .int .i64 0, .int .i64 0, .int .u32 0, .int .i32 0] 27 (0, 0))) := Lib.hid (blk_below (blk_alloc RK0.out _) hb2)
    have SK1 : Hid ((w2).heap[w1.heap.size]? = some (.cells #[.int .i64 4, .bool false, .bool true, .func (.func 34) #[] #[], .func (.func 35) #[] #[]] 48 (0, 0))) := Lib.hid (blk_below (heap_alloc_new _ _) hb2)
    have HB1 : Hid (Below w.heap.size w (w2)) := Lib.hid (on (below_alloc HB0.out _) hb2)
    clear hb2 ST0 RK0 HB0
    have hg2 : w1.heap.size < w2.heap.size := blk_lt SK1.out
    have s0 := blk_cell SK1.out 0
    have s1 := blk_cell SK1.out 1
    have s2 := blk_cell SK1.out 2
    have s3 := blk_cell SK1.out 3
    have s4 := blk_cell SK1.out 4
    go_wp2_with fail
    refine (scalarC u _).mono ?_
    rintro e w3 ⟨rfl, hd3⟩
    rw [HS.out]
    clear s0 s1 s2 s3 s4
    have hb3 := hd3.below
    have ST2 : Hid ((w3).heap[w.heap.size]? = some (.cells #[.int .i64 0, .int .i64 0, .int .u32 0, .int .i32 0] 24 (0, 0))) := Lib.hid (blk_below ST1.out hb3)
    have RK2 : Hid ((w3).heap[w.heap.size + 1]? = some (.cells #[.int .i64 0, .string ⟨#[]⟩, .int .i64 0, .int .i64 0, .int .u32 0, .int .i32 0] 27 (0, 0))) := Lib.hid (blk_below RK1.out hb3)
    have SK2 : Hid ((w3).heap[w1.heap.size]? = some (.cells #[.int .i64 4, .bool false, .bool true, .func (.func 34) #[] #[], .func (.func 35) #[] #[]] 48 (0, 0))) := Lib.hid (blk_below SK1.out hb3)
    have HB2 : Hid (Below w.heap.size w (w3)) := Lib.hid (on HB1.out hb3)
    clear hb3 hd3 ST1 RK1 SK1 HB1
    have hg5 : w1.heap.size < w3.heap.size := blk_lt SK2.out
    have hg6 : w.heap.size + 1 < w3.heap.size := by omega
    have hg7 : w.heap.size < w3.heap.size := by omega
    have e0 := blk_cell ST2.out 0
    have e1 := blk_cell ST2.out 1
    have e2 := blk_cell ST2.out 2
    have e3 := blk_cell ST2.out 3
    have s0 := blk_cell SK2.out 0
    have s1 := blk_cell SK2.out 1
    have s2 := blk_cell SK2.out 2
    have s3 := blk_cell SK2.out 3
    have s4 := blk_cell SK2.out 4
    have f0 := blk_frozen ST2.out 0
    go_wp2_with fail
    refine (HB0.out _).mono ?_
    rintro e w4 ⟨v4, rfl, hown4, hb4⟩
    clear e0 e1 e2 e3
    clear s0 s1 s2 s3 s4
    clear f0
    have ST3 : Hid ((w4).heap[w.heap.size]? = some (.cells #[.int .i64 0, .int .i64 0, .int .u32 0, .int .i32 0] 24 (0, 0))) := Lib.hid (blk_below ST2.out hb4)
    have RK3 : Hid ((w4).heap[w.heap.size + 1]? = some (.cells #[.int .i64 0, .string ⟨#[]⟩, .int .i64 0, .int .i64 0, .int .u32 0, .int .i32 0] 27 (0, 0))) := Lib.hid (blk_below RK2.out hb4)
    have SK3 : Hid ((w4).heap[w1.heap.size]? = some (.cells #[.int .i64 4, .bool false, .bool true, .func (.func 34) #[] #[], .func (.func 35) #[] #[]] 48 (0, 0))) := Lib.hid (blk_below SK2.out hb4)
    have HB3 : Hid (Below w.heap.size w (w4)) := Lib.hid (on HB2.out hb4)
    have HO4 := Lib.hid hown4
    have hz4 : w3.heap.size ≤ w4.heap.size := hb4.size
    clear hb4 hown4 ST2 RK2 SK2 HB2
    have e0 := blk_cell ST3.out 0
    have e1 := blk_cell ST3.out 1
    have e2 := blk_cell ST3.out 2
    have e3 := blk_cell ST3.out 3
    have f0 := blk_frozen ST3.out 0
    have hg8 : w.heap.size < w4.heap.size := by omega
    go_wp2_with fail
    refine (HSP.out _).mono ?_
    rintro e w5 ⟨rfl, hd5⟩
    clear e0 e1 e2 e3
    clear f0
    have hb5 := hd5.below
    have ST4 : Hid ((w5).heap[w.heap.size]? = some (.cells #[.int .i64 1, .int .i64 0, .int .u32 0, .int .i32 0] 24 (0, 0))) := Lib.hid (blk_below (put4 ST3.out _) hb5)
    have RK4 : Hid ((w5).heap[w.heap.size + 1]? = some (.cells #[.int .i64 0, .string ⟨#[]⟩, .int .i64 0, .int .i64 0, .int .u32 0, .int .i32 0] 27 (0, 0))) := Lib.hid (blk_below (blk_far RK3.out (show w.heap.size + 1 ≠ w.heap.size by omega) _) hb5)
    have SK4 : Hid ((w5).heap[w1.heap.size]? = some (.cells #[.int .i64 4, .bool false, .bool true, .func (.func 34) #[] #[], .func (.func 35) #[] #[]] 48 (0, 0))) := Lib.hid (blk_below (blk_far SK3.out (show w1.heap.size ≠ w.heap.size by omega) _) hb5)
    have HB4 : Hid (Below w.heap.size w (w5)) := Lib.hid (on (HB3.out.setCell (Nat.le_refl _) _) hb5)
    have HO5 : Hid (w5.ownsRow w3.heap.size 5 1 v4 l0.length (nums .u8 l0)) := Lib.hid (own_on (ownsRow_setCell_below HO4.out hg7 _) hb5)
    have hz5 : w3.heap.size ≤ w5.heap.size := by have := hb5.size; simp at this; omega
    clear hb5 hd5 ST3 RK3 SK3 HB3 HO4
    have hg9 : w1.heap.size < w5.heap.size := blk_lt SK4.out
    have hB1 : w1.heap.size < w3.heap.size := hg5
    have hg10 : w.heap.size + 1 < w5.heap.size := by omega
    have s0 := blk_cell SK4.out 0
    have s1 := blk_cell SK4.out 1
    have s2 := blk_cell SK4.out 2
    have s3 := blk_cell SK4.out 3
    have s4 := blk_cell SK4.out 4
    go_wp2_with fail
    refine (HBY.out _).mono ?_
    rintro e w6 ⟨v6, rfl, hown6, hb6⟩
    clear s0 s1 s2 s3 s4
    obtain ⟨A6, c6, rfl, hr6⟩ := own_reads hown6
    have ST5 : Hid ((w6).heap[w.heap.size]? = some (.cells #[.int .i64 1, .int .i64 0, .int .u32 0, .int .i32 0] 24 (0, 0))) := Lib.hid (blk_below ST4.out hb6)
    have RK5 : Hid ((w6).heap[w.heap.size + 1]? = some (.cells #[.int .i64 0, .string ⟨#[]⟩, .int .i64 0, .int .i64 0, .int .u32 0, .int .i32 0] 27 (0, 0))) := Lib.hid (blk_below RK4.out hb6)
    have HB5 : Hid (Below w.heap.size w (w6)) := Lib.hid (on HB4.out hb6)
    have HO6 : Hid (w6.ownsRow w3.heap.size 5 1 v4 l0.length (nums .u8 l0)) := Lib.hid (own_on HO5.out hb6)
    have HR6 := Lib.hid hr6
    have hz6 : w3.heap.size ≤ w6.heap.size := by have := hb6.size; omega
    clear hr6 hown6 hb6 ST4 RK4 SK4 HB4 HO5
    go_upto_region 16 with (at_builtin; refine print_append_row w3.heap.size rfl (.tmp 90) (.tmp 98) 30 5 .u8 1 rfl Try.underlying30 info5 (by omega) v4 l0 l A6 l.length c6 rfl rfl HO6.out HR6.out (Below.refl w3.heap.size w6) hz6 (by omega) ?_; intro v8 w8 hown8 hb8 hg8' hat8; clear hg8' hat8; have HO8 : Hid (w8.ownsRow w3.heap.size 5 1 v8 (l0 ++ l).length (nums .u8 (l0 ++ l))) := hown8; have HX8 := Lib.hid hb8; clear hown8 hb8)
    have ST6 : Hid ((w8).heap[w.heap.size]? = some (.cells #[.int .i64 1, .int .i64 0, .int .u32 0, .int .i32 0] 24 (0, 0))) := Lib.hid (blk_b ST5.out HX8.out (by omega))
    have RK6 : Hid ((w8).heap[w.heap.size + 1]? = some (.cells #[.int .i64 0, .string ⟨#[]⟩, .int .i64 0, .int .i64 0, .int .u32 0, .int .i32 0] 27 (0, 0))) := Lib.hid (blk_b RK5.out HX8.out (by omega))
    have HB6 : Hid (Below w.heap.size w (w8)) := Lib.hid (HB5.out.trans (HX8.out.mono (by omega)))
    clear ST5 RK5 HB5 HX8 HO6
    obtain ⟨A8, c8, rfl, hr8⟩ := own_reads HO8.out
    have hcv : (convert 30 9 (.slice A8 (l0 ++ l).length c8)).run Try.prog w8 = .ok (.string (strOfNums (l0 ++ l))) w8 := Kd.C_string (P := Try.prog) Try.underlying30 Try.underlying5 Try.underlying9 (Kd.C_of_reads (d := (0 : Int)) hr8)
    clear hr8
    obtain ⟨S8, hS8⟩ : ∃ S, S = strOfNums (l0 ++ l) := ⟨_, rfl⟩
    rw [← hS8] at hcv
    simp only [List.length_append] at hcv
    have HS8 := Lib.hid hS8
    clear hS8
    have e0 := blk_cell ST6.out 0
    have e1 := blk_cell ST6.out 1
    have e2 := blk_cell ST6.out 2
    have e3 := blk_cell ST6.out 3
    have r0 := blk_cell RK6.out 0
    have r1 := blk_cell RK6.out 1
    have r2 := blk_cell RK6.out 2
    have r3 := blk_cell RK6.out 3
    have r4 := blk_cell RK6.out 4
    have r5 := blk_cell RK6.out 5
    have q0 := blk_frozen RK6.out 0
    have q1 := blk_frozen RK6.out 1
    have q2 := blk_frozen RK6.out 2
    have q3 := blk_frozen RK6.out 3
    have q4 := blk_frozen RK6.out 4
    have q5 := blk_frozen RK6.out 5
    go_wp2_with fail
    refine bodyPost_ret (results_cell_row rfl _ _ (w.heap.size + 1) 27 _ (0, 0) _ rfl (put6 RK6.out _ _ _ _ _ _) Try.underlying27 rfl (by kernel_rfl)) rfl ?_
    exact ⟨by rw [← HS8.out]; rfl, below6 HB6.out (Nat.le_succ _) _ _ _ _ _ _⟩
set_option maxHeartbeats 4000000 in
set_option maxRecDepth 100000 in
theorem set_mTwo (kind u x y : Int) (w : World) (hk : shp kind 0 = some (2, true, true, false)) (hs : Scal u) (hsp : ∀ W, Calls Try.prog 20 #[.int .i32 u] W fun e w' => e = .returned (.tuple #[.int .i32 x, .int .i32 y, .bool true]) ∧ Drawn0 W w') (hxm : x % 4294967296 = x) (hym : y % 4294967296 = y) :
    Calls Try.prog 9 #[.int .i64 kind, stV 0 0 0 0, .int .i32 u] w fun en w' => en = .returned (putV 0 (strOfNums (un false 2 65279 ++ un false 2 x ++ un false 2 y)) 1) ∧ Below w.heap.size w w' := by
  have hf : Fit true 0 0 0 0 := ⟨rfl, rfl, rfl, .inl rfl⟩
  have HB0 : Hid (∀ W, Calls Try.prog 35 #[.int .u32 65279, .int .i64 2] W (BytesEnd W (un false 2 65279))) := Lib.hid (fun W => bigS 2 65279 W (by decide))
  have hl0 : (un false 2 65279).length ≤ 4 := by have := un_len false (show (2 : Int) = 2 ∨ (2 : Int) = 4 by decide) 65279; omega
  generalize un false 2 65279 = l0 at *
  have hm : true = true → ((0 : Int) == 0) = true := fun _ => rfl
  have h1l : (un false 2 x).length = 2 := by have := un_len false (show (2 : Int) = 2 ∨ (2 : Int) = 4 by decide) x; omega
  have HY1 : Hid (∀ W, Calls Try.prog 35 #[.int .u32 x, .int .i64 2] W (RowEnd W (un false 2 x))) := Lib.hid (fun W => row_end (bigS 2 x W (by decide)) (by omega))
  generalize un false 2 x = l1 at *
  have h1a : l1.length ≤ 2 := by omega
  clear h1l
  have h2l : (un false 2 y).length = 2 := by have := un_len false (show (2 : Int) = 2 ∨ (2 : Int) = 4 by decide) y; omega
  have HY2 : Hid (∀ W, Calls Try.prog 35 #[.int .u32 y, .int .i64 2] W (RowEnd W (un false 2 y))) := Lib.hid (fun W => row_end (bigS 2 y W (by decide)) (by omega))
  generalize un false 2 y = l2 at *
  have h2a : l2.length ≤ 2 := by omega
  clear h2l
  have HS : Hid (decide (Scal u) = true) := Lib.hid (decide_eq_true hs)
  have HSP := Lib.hid hsp
  have HK := Lib.hid hk
  have HF := Lib.hid hf
  have HM := Lib.hid hm
  clear hk hf hsp hs hm
  clear HM
  unfold stV
  go_enter Try.func9, Try.ntmps9
  go_wp2_with fail
  refine (shapeC _ HK.out).mono ?_
  rintro e w1 ⟨rfl, hb1⟩
  rw [shV_eq, show fa false = 34 from rfl, show fb false = 35 from rfl]
  have ST0 : Hid ((w1).heap[w.heap.size]? = some (.cells #[.int .i64 0, .int .i64 0, .int .u32 0, .int .i32 0] 24 (0, 0))) := Lib.hid (blk_below (blk_alloc (heap_alloc_new _ _) _) hb1)
  have RK0 : Hid ((w1).heap[w.heap.size + 1]? = some (.cells #[.int .i64 0, .string ⟨#[]⟩, .int .i64 0, .int .i64 0, .int .u32 0, .int .i32 0] 27 (0, 0))) := Lib.hid (blk_below (blk_second _ _ _) hb1)
  have HB0 : Hid (Below w.heap.size w (w1)) := Lib.hid (on (below_alloc (below_alloc (Below.refl _ _) _) _) hb1)
  have hg0 : w.heap.size + 1 < w1.heap.size := blk_lt RK0.out
  clear hb1
  have hg1 : w.heap.size < w1.heap.size := by omega
  have e0 := blk_cell ST0.out 0
  have e1 := blk_cell ST0.out 1
  have e2 := blk_cell ST0.out 2
  have e3 := blk_cell ST0.out 3
  go_wp2_with fail
  have hc := fitsC 2 0 0 0 0 true true false (w1.alloc (.cells #[.int .i64 2, .bool true, .bool true, .func (.func 34) #[] #[], .func (.func 35) #[] #[]] 48)) HF.out
  rw [shV_eq, show fa false = 34 from rfl, show fb false = 35 from rfl] at hc
  unfold stV at hc
  refine hc.mono ?_
  clear hc
  rintro e w2 ⟨rfl, hb2⟩
  clear e0 e1 e2 e3
  have ST1 : Hid ((w2).heap[w.heap.size]? = some (.cells #[.int .i64 0, .int .i64 0, .int .u32 0, .int .i32 0] 24 (0, 0))) := Lib.hid (blk_below (blk_alloc ST0.out _) hb2)
  have RK1 : Hid ((w2).heap[w.heap.size + 1]? = some (.cells #[.int .i64 0, .string ⟨#[]⟩, .int .i64 0, .int .i64 0, .int .u32 0, .int .i32 0] 27 (0, 0))) := Lib.hid (blk_below (blk_alloc RK0.out _) hb2)
  have SK1 : Hid ((w2).heap[w1.heap.size]? = some (.cells #[.int .i64 2, .bool true, .bool true, .func (.func 34) #[] #[], .func (.func 35) #[] #[]] 48 (0, 0))) := Lib.hid (blk_below (heap_alloc_new _ _) hb2)
  have HB1 : Hid (Below w.heap.size w (w2)) := Lib.hid (on (below_alloc HB0.out _) hb2)
  clear hb2 ST0 RK0 HB0
  have hg2 : w1.heap.size < w2.heap.size := blk_lt SK1.out
  have s0 := blk_cell SK1.out 0
  have s1 := blk_cell SK1.out 1
  have s2 := blk_cell SK1.out 2
  have s3 := blk_cell SK1.out 3
  have s4 := blk_cell SK1.out 4
  go_wp2_with fail
  refine (scalarC u _).mono ?_
  rintro e w3 ⟨rfl, hd3⟩
  rw [HS.out]
  clear s0 s1 s2 s3 s4
  have hb3 := hd3.below
  have ST2 : Hid ((w3).heap[w.heap.size]? = some (.cells #[.int .i64 0, .int .i64 0, .int .u32 0, .int .i32 0] 24 (0, 0))) := Lib.hid (blk_below ST1.out hb3)
  have RK2 : Hid ((w3).heap[w.heap.size + 1]? = some (.cells #[.int .i64 0, .string ⟨#[]⟩, .int .i64 0, .int .i64 0, .int .u32 0, .int .i32 0] 27 (0, 0))) := Lib.hid (blk_below RK1.out hb3)
  have SK2 : Hid ((w3).heap[w1.heap.size]? = some (.cells #[.int .i64 2, .bool true, .bool true, .func (.func 34) #[] #[], .func (.func 35) #[] #[]] 48 (0, 0))) := Lib.hid (blk_below SK1.out hb3)
  have HB2 : Hid (Below w.heap.size w (w3)) := Lib.hid (on HB1.out hb3)
  clear hb3 hd3 ST1 RK1 SK1 HB1
  have hg5 : w1.heap.size < w3.heap.size := blk_lt SK2.out
  have hg6 : w.heap.size + 1 < w3.heap.size := by omega
  have hg7 : w.heap.size < w3.heap.size := by omega
  have e0 := blk_cell ST2.out 0
  have e1 := blk_cell ST2.out 1
  have e2 := blk_cell ST2.out 2
  have e3 := blk_cell ST2.out 3
  have s0 := blk_cell SK2.out 0
  have s1 := blk_cell SK2.out 1
  have s2 := blk_cell SK2.out 2
  have s3 := blk_cell SK2.out 3
  have s4 := blk_cell SK2.out 4
  have f0 := blk_frozen ST2.out 0
  go_wp2_with fail
  refine (HB0.out _).mono ?_
  rintro e w4 ⟨v4, rfl, hown4, hb4⟩
  clear e0 e1 e2 e3
  clear s0 s1 s2 s3 s4
  clear f0
  have ST3 : Hid ((w4).heap[w.heap.size]? = some (.cells #[.int .i64 0, .int .i64 0, .int .u32 0, .int .i32 0] 24 (0, 0))) := Lib.hid (blk_below ST2.out hb4)
  have RK3 : Hid ((w4).heap[w.heap.size + 1]? = some (.cells #[.int .i64 0, .string ⟨#[]⟩, .int .i64 0, .int .i64 0, .int .u32 0, .int .i32 0] 27 (0, 0))) := Lib.hid (blk_below RK2.out hb4)
  have SK3 : Hid ((w4).heap[w1.heap.size]? = some (.cells #[.int .i64 2, .bool true, .bool true, .func (.func 34) #[] #[], .func (.func 35) #[] #[]] 48 (0, 0))) := Lib.hid (blk_below SK2.out hb4)
  have HB3 : Hid (Below w.heap.size w (w4)) := Lib.hid (on HB2.out hb4)
  have HO4 := Lib.hid hown4
  have hz4 : w3.heap.size ≤ w4.heap.size := hb4.size
  clear hb4 hown4 ST2 RK2 SK2 HB2
  have e0 := blk_cell ST3.out 0
  have e1 := blk_cell ST3.out 1
  have e2 := blk_cell ST3.out 2
  have e3 := blk_cell ST3.out 3
  have f0 := blk_frozen ST3.out 0
  have hg8 : w.heap.size < w4.heap.size := by omega
  go_wp2_with fail
  refine (HSP.out _).mono ?_
  rintro e w5 ⟨rfl, hd5⟩
  clear e0 e1 e2 e3
  clear f0
  have hb5 := hd5.below
  have ST4 : Hid ((w5).heap[w.heap.size]? = some (.cells #[.int .i64 1, .int .i64 0, .int .u32 0, .int .i32 0] 24 (0, 0))) := Lib.hid (blk_below (put4 ST3.out _) hb5)
  have RK4 : Hid ((w5).heap[w.heap.size + 1]? = some (.cells #[.int .i64 0, .string ⟨#[]⟩, .int .i64 0, .int .i64 0, .int .u32 0, .int .i32 0] 27 (0, 0))) := Lib.hid (blk_below (blk_far RK3.out (show w.heap.size + 1 ≠ w.heap.size by omega) _) hb5)
  have SK4 : Hid ((w5).heap[w1.heap.size]? = some (.cells #[.int .i64 2, .bool true, .bool true, .func (.func 34) #[] #[], .func (.func 35) #[] #[]] 48 (0, 0))) := Lib.hid (blk_below (blk_far SK3.out (show w1.heap.size ≠ w.heap.size by omega) _) hb5)
  have HB4 : Hid (Below w.heap.size w (w5)) := Lib.hid (on (HB3.out.setCell (Nat.le_refl _) _) hb5)
  have HO5 : Hid (w5.ownsRow w3.heap.size 5 1 v4 l0.length (nums .u8 l0)) := Lib.hid (own_on (ownsRow_setCell_below HO4.out hg7 _) hb5)
  have hz5 : w3.heap.size ≤ w5.heap.size := by have := hb5.size; simp at this; omega
  clear hb5 hd5 ST3 RK3 SK3 HB3 HO4
  have hg9 : w1.heap.size < w5.heap.size := blk_lt SK4.out
  have hB1 : w1.heap.size < w3.heap.size := hg5
  have hg10 : w.heap.size + 1 < w5.heap.size := by omega
  have s0 := blk_cell SK4.out 0
  have s1 := blk_cell SK4.out 1
  have s2 := blk_cell SK4.out 2
  have s3 := blk_cell SK4.out 3
  have s4 := blk_cell SK4.out 4
  go_wp2_with fail
  clear s0 s1 s2 s3 s4
  have HZ0 : Hid (w3.heap.size ≤ w5.heap.size) := Lib.hid hz5
  have OB : Hid (w5.drew.ownsRow w3.heap.size 5 1 v4 l0.length (nums .u8 l0)) := Lib.hid HO5.out
  have HV0 : Hid (∀ k, v4.ownBlock = some k → k < w5.heap.size) := Lib.hid (own_lt HO5.out)
  clear HO5
  have HX : Hid (Below w3.heap.size w5 w5.drew) := Lib.hid (below_drew (Below.refl _ _))
  have HZ : Hid (w3.heap.size ≤ w5.drew.heap.size ∧ w5.heap.size ≤ w5.drew.heap.size) := Lib.hid ⟨HZ0.out, Nat.le_refl _⟩
  have hs4 := blk_cell SK4.out 4
  have hwx : IntKind.u32.wrap x = x := by rw [IntKind.wrap_u32]; exact hxm
  have hwy : IntKind.u32.wrap y = y := by rw [IntKind.wrap_u32]; exact hym
  go_region_held3 (fun w' => w'.cell? ⟨w1.heap.size, 4, none⟩ = some (.func (.func 35) #[] #[])) (first | exact hs4 | exact (HX.out.cell (p := ⟨w1.heap.size, 4, none⟩) hB1).trans hs4) (first | (go_at_call 35; (with_reducible refine (HY1.out _).mono ?_); rintro e wa ⟨g1, c1, rfl, ho, hb⟩; have R1 := Lib.hid (Go.Joins.ownsRow_le ho HZ.out.2); (try replace OB := Lib.hid (own_on OB.out hb)); (try replace OA := Lib.hid (own_on OA.out hb)); (try replace R2 := Lib.hid (own_on R2.out hb)); have hz := HZ.out; have hsz := hb.size; replace HX := Lib.hid (below_on HX.out HZ.out.1 hb); clear HZ; have HZ : Hid (w3.heap.size ≤ wa.heap.size ∧ w5.heap.size ≤ wa.heap.size) := Lib.hid ⟨Nat.le_trans hz.1 hsz, Nat.le_trans hz.2 hsz⟩; clear ho hb hz hsz) | (go_at_call 35; (with_reducible refine (HY2.out _).mono ?_); rintro e wa ⟨g2, c2, rfl, ho, hb⟩; have R2 := Lib.hid (Go.Joins.ownsRow_le ho HZ.out.2); (try replace OB := Lib.hid (own_on OB.out hb)); (try replace OA := Lib.hid (own_on OA.out hb)); (try replace R1 := Lib.hid (own_on R1.out hb)); have hz := HZ.out; have hsz := hb.size; replace HX := Lib.hid (below_on HX.out HZ.out.1 hb); clear HZ; have HZ : Hid (w3.heap.size ≤ wa.heap.size ∧ w5.heap.size ≤ wa.heap.size) := Lib.hid ⟨Nat.le_trans hz.1 hsz, Nat.le_trans hz.2 hsz⟩; clear ho hb hz hsz) | (refine step_append_row (w0 := w5) w3.heap.size (by simp [Region.wanted]) (.tmp 75) (.tmp 81) rfl v4 l0 l1 ⟨g1, 0, none⟩ l1.length c1 (by simp [Act.eval]; try rfl) (by simp [Act.eval]; try rfl) OB.out (own_reads' R1.out) HX.out HZ.out.1 (by first | omega | (simp; omega)) ?_; intro va wa ho hb hg; have hsz := hg.size; have OA : Hid (wa.ownsRow w3.heap.size 5 1 va (l0 ++ l1).length (nums .u8 (l0 ++ l1))) := Lib.hid ho; (try replace R2 := Lib.hid (own_apart R2.out hg HV0.out)); clear OB HX; have HX := Lib.hid hb; have hz := HZ.out; clear HZ; have HZ : Hid (w3.heap.size ≤ wa.heap.size ∧ w5.heap.size ≤ wa.heap.size) := Lib.hid ⟨Nat.le_trans hz.1 hsz, Nat.le_trans hz.2 hsz⟩; clear ho hb hz hsz hg) | (refine step_append_row (w0 := w5) w3.heap.size (by simp [Region.wanted]) (.tmp 82) (.tmp 88) rfl va (l0 ++ l1) l2 ⟨g2, 0, none⟩ l2.length c2 (by simp [Act.eval]; try rfl) (by simp [Act.eval]; try rfl) OA.out (own_reads' R2.out) HX.out HZ.out.1 (by first | omega | (simp; omega)) ?_; intro vb wb ho hb hg; have OC : Hid (wb.ownsRow w3.heap.size 5 1 vb (l0 ++ l1 ++ l2).length (nums .u8 (l0 ++ l1 ++ l2))) := Lib.hid ho; clear HX; have HX := Lib.hid hb; clear ho hb hg) | fail)
  all_goals
    have ST5 : Hid ((wb).heap[w.heap.size]? = some (.cells #[.int .i64 1, .int .i64 0, .int .u32 0, .int .i32 0] 24 (0, 0))) := Lib.hid (blk_b ST4.out HX.out (by omega))
    have RK5 : Hid ((wb).heap[w.heap.size + 1]? = some (.cells #[.int .i64 0, .string ⟨#[]⟩, .int .i64 0, .int .i64 0, .int .u32 0, .int .i32 0] 27 (0, 0))) := Lib.hid (blk_b RK4.out HX.out (by omega))
    have HB5 : Hid (Below w.heap.size w (wb)) := Lib.hid (HB4.out.trans (HX.out.mono (by omega)))
    clear ST4 RK4 SK4 HX HB4 hs4 OA R1 R2
    obtain ⟨A8, c8, rfl, hr8⟩ := own_reads OC.out
    have hcv : (convert 30 9 (.slice A8 (l0 ++ l1 ++ l2).length c8)).run Try.prog wb = .ok (.string (strOfNums (l0 ++ l1 ++ l2))) wb := Kd.C_string (P := Try.prog) Try.underlying30 Try.underlying5 Try.underlying9 (Kd.C_of_reads (d := (0 : Int)) hr8)
    clear hr8
    obtain ⟨S8, hS8⟩ : ∃ S, S = strOfNums (l0 ++ l1 ++ l2) := ⟨_, rfl⟩
    rw [← hS8] at hcv
    simp only [List.append_assoc, List.length_append] at hcv
    have HS8 := Lib.hid hS8
    clear hS8
    have e0 := blk_cell ST5.out 0
    have e1 := blk_cell ST5.out 1
    have e2 := blk_cell ST5.out 2
    have e3 := blk_cell ST5.out 3
    have r0 := blk_cell RK5.out 0
    have r1 := blk_cell RK5.out 1
    have r2 := blk_cell RK5.out 2
    have r3 := blk_cell RK5.out 3
    have r4 := blk_cell RK5.out 4
    have r5 := blk_cell RK5.out 5
    have q0 := blk_frozen RK5.out 0
    have q1 := blk_frozen RK5.out 1
    have q2 := blk_frozen RK5.out 2
    have q3 := blk_frozen RK5.out 3
    have q4 := blk_frozen RK5.out 4
    have q5 := blk_frozen RK5.out 5
    go_wp2_with fail
    refine bodyPost_ret (results_cell_row rfl _ _ (w.heap.size + 1) 27 _ (0, 0) _ rfl (put6 RK5.out _ _ _ _ _ _) Try.underlying27 rfl (by kernel_rfl)) rfl ?_
    exact ⟨by rw [← HS8.out]; rfl, below6 HB5.out (Nat.le_succ _) _ _ _ _ _ _⟩
end Go.Proofs.Ytflmpdfcbdfabaa.Wd
