/- wide.Set, walked: one unit, no mark, of two bytes. -/
import Derived.Test.YtflmpdfcbdfabaaWk
namespace Go.Proofs.Ytflmpdfcbdfabaa.Wd
open Go.RowKit Go.Proofs.YtflmpdfcbdfabaaW.PrintWords Go.Proofs.YtflmpdfcbdfabaaW.PrintLast Go.Proofs.YtflmpdfcbdfabaaW.PrintMore
theorem blk_b {B g : Nat} {w w1 : World} {o : Obj} (h : w.heap[g]? = some o) (hb : Below B w w1) (hg : g < B) : w1.heap[g]? = some o := (hb.block g hg).trans h
theorem below_b {b : Nat} {w w4 w5 w8 : World} (h : Below b w w5) (h4 : b ≤ w4.heap.size) (k : Below w4.heap.size w5 w8) : Below b w w8 := h.trans (k.mono h4)
theorem own_on {W W1 : World} {base : Nat} {e : TypeId} {size n : Nat} {v : Value} {xs : List Value} (h : W.ownsRow base e size v n xs) (hb : Below W.heap.size W W1) : W1.ownsRow base e size v n xs :=
  h.kept (grown_of_below hb none) (Classical.em _)
set_option maxHeartbeats 4000000 in
set_option maxRecDepth 100000 in
theorem set_one_false2 (kind mode u x y : Int) (pairs marks t : Bool) (w : World) (hk : shp kind mode = some (2, pairs, marks, false)) (hf : Fit marks mode 0 0 0) (hm : marks = true → (mode == 0) = false) (hs : Scal u) (hsp : ∀ W, Calls Try.prog 20 #[.int .i32 u] W fun e w' => e = .returned (.tuple #[.int .i32 x, .int .i32 y, .bool t]) ∧ Drawn0 W w') (ht : t = false) (hp : pairs = true ∨ u < 65536) :
    Calls Try.prog 9 #[.int .i64 kind, stV mode 0 0 0, .int .i32 u] w fun en w' => en = .returned (putV 0 (strOfNums (un false 2 u)) mode) ∧ Below w.heap.size w w' := by
  have HBY : Hid (∀ W, Calls Try.prog 35 #[.int .u32 u, .int .i64 2] W (BytesEnd W (un false 2 u))) := Lib.hid (fun W => bigS 2 u W (by decide))
  have hl4 : (un false 2 u).length ≤ 4 := by have := un_len false (show (2 : Int) = 2 ∨ (2 : Int) = 4 by decide) u; omega
  generalize un false 2 u = l at *
  have hxm : u % 4294967296 = u := by unfold Scal at hs; omega
  have HS : Hid (decide (Scal u) = true) := Lib.hid (decide_eq_true hs)
  have HSP := Lib.hid hsp
  have HK := Lib.hid hk
  have HF := Lib.hid hf
  have HM := Lib.hid hm
  clear hk hf hsp hs hm
  subst ht
  have hmm : marks = false ∨ (marks = true ∧ (mode == 0) = false) := by cases marks; exact .inl rfl; exact .inr ⟨rfl, HM.out rfl⟩
  have hpp : pairs = true ∨ (pairs = false ∧ ¬ 65535 < u) := by cases pairs; exact .inr ⟨rfl, by rcases hp with h | h; cases h; omega⟩; exact .inl rfl
  clear hp HM
  rcases hmm with rfl | ⟨rfl, hmm⟩ <;> rcases hpp with rfl | ⟨rfl, hpp⟩
  · skip
    unfold stV
    go_enter Try.func9, Try.ntmps9
    go_wp2_with fail
    refine (shapeC _ HK.out).mono ?_
    rintro e w1 ⟨rfl, hb1⟩
    rw [shV_eq, show fa false = 34 from rfl, show fb false = 35 from rfl]
    have ST0 : Hid ((w1).heap[w.heap.size]? = some (.cells #[.int .i64 mode, .int .i64 0, .int .u32 0, .int .i32 0] 24 (0, 0))) := Lib.hid (blk_below (blk_alloc (heap_alloc_new _ _) _) hb1)
    have RK0 : Hid ((w1).heap[w.heap.size + 1]? = some (.cells #[.int .i64 0, .string ⟨#[]⟩, .int .i64 0, .int .i64 0, .int .u32 0, .int .i32 0] 27 (0, 0))) := Lib.hid (blk_below (blk_second _ _ _) hb1)
    have HB0 : Hid (Below w.heap.size w (w1)) := Lib.hid (on (below_alloc (below_alloc (Below.refl _ _) _) _) hb1)
    have hg0 : w.heap.size + 1 < w1.heap.size := blk_lt RK0.out
    clear hb1
    have hg1 : w.heap.size < w1.heap.size := by omega
    have e0 := blk_cell ST0.out 0
    have e1 := blk_cell ST0.out 1
    have e2 := blk_cell ST0.out 2
    have e3 := blk_cell ST0.out 3
    go_wp2_with fail
    have hc := fitsC 2 mode 0 0 0 true false false (w1.alloc (.cells #[.int .i64 2, .bool true, .bool false, .func (.func 34) #[] #[], .func (.func 35) #[] #[]] 48)) HF.out
    rw [shV_eq, show fa false = 34 from rfl, show fb false = 35 from rfl] at hc
    unfold stV at hc
    refine hc.mono ?_
    clear hc
    rintro e w2 ⟨rfl, hb2⟩
    clear e0 e1 e2 e3
    have ST1 : Hid ((w2).heap[w.heap.size]? = some (.cells #[.int .i64 mode, .int .i64 0, .int .u32 0, .int .i32 0] 24 (0, 0))) := Lib.hid (blk_below (blk_alloc ST0.out _) hb2)
    have RK1 : Hid ((w2).heap[w.heap.size + 1]? = some (.cells #[.int .i64 0, .string ⟨#[]⟩, .int .i64 0, .int .i64 0, .int .u32 0, .int .i32 0] 27 (0, 0))) := Lib.hid (blk_below (blk_alloc RK0.out _) hb2)
    have SK1 : Hid ((w2).heap[w1.heap.size]? = some (.cells #[.int .i64 2, .bool true, .bool false, .func (.func 34) #[] #[], .func (.func 35) #[] #[]] 48 (0, 0))) := Lib.hid (blk_below (heap_alloc_new _ _) hb2)
    have HB1 : Hid (Below w.heap.size w (w2)) := Lib.hid (on (below_alloc HB0.out _) hb2)
    clear hb2 ST0 RK0 HB0
    have hg2 : w1.heap.size < w2.heap.size := blk_lt SK1.out
    have s0 := blk_cell SK1.out 0
    have s1 := blk_cell SK1.out 1
    have s2 := blk_cell SK1.out 2
    have s3 := blk_cell SK1.out 3
    have s4 := blk_cell SK1.out 4
    go_wp2_with fail
    refine (scalarC u _).mono ?_
    rintro e w3 ⟨rfl, hd3⟩
    rw [HS.out]
    clear s0 s1 s2 s3 s4
    have hb3 := hd3.below
    have ST2 : Hid ((w3).heap[w.heap.size]? = some (.cells #[.int .i64 mode, .int .i64 0, .int .u32 0, .int .i32 0] 24 (0, 0))) := Lib.hid (blk_below ST1.out hb3)
    have RK2 : Hid ((w3).heap[w.heap.size + 1]? = some (.cells #[.int .i64 0, .string ⟨#[]⟩, .int .i64 0, .int .i64 0, .int .u32 0, .int .i32 0] 27 (0, 0))) := Lib.hid (blk_below RK1.out hb3)
    have SK2 : Hid ((w3).heap[w1.heap.size]? = some (.cells #[.int .i64 2, .bool true, .bool false, .func (.func 34) #[] #[], .func (.func 35) #[] #[]] 48 (0, 0))) := Lib.hid (blk_below SK1.out hb3)
    have HB2 : Hid (Below w.heap.size w (w3)) := Lib.hid (on HB1.out hb3)
    clear hb3 hd3 ST1 RK1 SK1 HB1
    have hg5 : w1.heap.size < w3.heap.size := blk_lt SK2.out
    have hg6 : w.heap.size + 1 < w3.heap.size := by omega
    have hg7 : w.heap.size < w3.heap.size := by omega
    have e0 := blk_cell ST2.out 0
    have e1 := blk_cell ST2.out 1
    have e2 := blk_cell ST2.out 2
    have e3 := blk_cell ST2.out 3
    have s0 := blk_cell SK2.out 0
    have s1 := blk_cell SK2.out 1
    have s2 := blk_cell SK2.out 2
    have s3 := blk_cell SK2.out 3
    have s4 := blk_cell SK2.out 4
    go_wp2_with fail
    refine (HSP.out _).mono ?_
    rintro e w4 ⟨rfl, hd4⟩
    have hb4 := hd4.below
    have ST3 : Hid ((w4).heap[w.heap.size]? = some (.cells #[.int .i64 mode, .int .i64 0, .int .u32 0, .int .i32 0] 24 (0, 0))) := Lib.hid (blk_below ST2.out hb4)
    have RK3 : Hid ((w4).heap[w.heap.size + 1]? = some (.cells #[.int .i64 0, .string ⟨#[]⟩, .int .i64 0, .int .i64 0, .int .u32 0, .int .i32 0] 27 (0, 0))) := Lib.hid (blk_below RK2.out hb4)
    have SK3 : Hid ((w4).heap[w1.heap.size]? = some (.cells #[.int .i64 2, .bool true, .bool false, .func (.func 34) #[] #[], .func (.func 35) #[] #[]] 48 (0, 0))) := Lib.hid (blk_below SK2.out hb4)
    have HB3 : Hid (Below w.heap.size w (w4)) := Lib.hid (on HB2.out hb4)
    clear e0 e1 e2 e3
    clear s0 s1 s2 s3 s4
    clear hb4 hd4 ST2 RK2 SK2 HB2
    have hg8 : w1.heap.size < w4.heap.size := blk_lt SK3.out
    have hg9 : w.heap.size + 1 < w4.heap.size := by omega
    have s0 := blk_cell SK3.out 0
    have s1 := blk_cell SK3.out 1
    have s2 := blk_cell SK3.out 2
    have s3 := blk_cell SK3.out 3
    have s4 := blk_cell SK3.out 4
    go_wp2_with fail
    refine (HBY.out _).mono ?_
    rintro e w5 ⟨v5, rfl, hown5, hb5⟩
    clear s0 s1 s2 s3 s4
    obtain ⟨A5, c5, rfl, hr5⟩ := own_reads hown5
    have ST4 : Hid ((w5).heap[w.heap.size]? = some (.cells #[.int .i64 mode, .int .i64 0, .int .u32 0, .int .i32 0] 24 (0, 0))) := Lib.hid (blk_below ST3.out hb5)
    have RK4 : Hid ((w5).heap[w.heap.size + 1]? = some (.cells #[.int .i64 0, .string ⟨#[]⟩, .int .i64 0, .int .i64 0, .int .u32 0, .int .i32 0] 27 (0, 0))) := Lib.hid (blk_below RK3.out hb5)
    have HB4 : Hid (Below w.heap.size w (w5)) := Lib.hid (on HB3.out hb5)
    have HR5 := Lib.hid hr5
    have hz5 : w4.heap.size ≤ w5.heap.size := hb5.size
    clear hr5 hown5 hb5 ST3 RK3 SK3
    go_upto_region 16 with (at_builtin; refine print_append_row w4.heap.size rfl (.tmp 90) (.tmp 98) 30 5 .u8 1 rfl Try.underlying30 info5 (by omega) (.slice none 0 0) [] l A5 l.length c5 rfl rfl (own_nil _ _ _ _) HR5.out (Below.refl w4.heap.size w5) hz5 (by simp; omega) ?_; intro v8 w8 hown8 hb8 hg8' hat8; clear hg8' hat8; have HO8 : Hid (w8.ownsRow w4.heap.size 5 1 v8 l.length (nums .u8 l)) := hown8; have HX8 := Lib.hid hb8; clear hown8 hb8)
    have ST5 : Hid ((w8).heap[w.heap.size]? = some (.cells #[.int .i64 mode, .int .i64 0, .int .u32 0, .int .i32 0] 24 (0, 0))) := Lib.hid (blk_b ST4.out HX8.out (by omega))
    have RK5 : Hid ((w8).heap[w.heap.size + 1]? = some (.cells #[.int .i64 0, .string ⟨#[]⟩, .int .i64 0, .int .i64 0, .int .u32 0, .int .i32 0] 27 (0, 0))) := Lib.hid (blk_b RK4.out HX8.out (by omega))
    have HB5 : Hid (Below w.heap.size w (w8)) := Lib.hid (below_b HB4.out HB3.out.size HX8.out)
    clear ST4 RK4 HB4 HX8 HB3
    obtain ⟨A8, c8, rfl, hr8⟩ := own_reads HO8.out
    have hcv : (convert 30 9 (.slice A8 l.length c8)).run Try.prog w8 = .ok (.string (strOfNums l)) w8 := Kd.C_string (P := Try.prog) Try.underlying30 Try.underlying5 Try.underlying9 (Kd.C_of_reads (d := (0 : Int)) hr8)
    clear hr8
    obtain ⟨S8, hS8⟩ : ∃ S, S = strOfNums l := ⟨_, rfl⟩
    rw [← hS8] at hcv
    have HS8 := Lib.hid hS8
    clear hS8
    have e0 := blk_cell ST5.out 0
    have e1 := blk_cell ST5.out 1
    have e2 := blk_cell ST5.out 2
    have e3 := blk_cell ST5.out 3
    have r0 := blk_cell RK5.out 0
    have r1 := blk_cell RK5.out 1
    have r2 := blk_cell RK5.out 2
    have r3 := blk_cell RK5.out 3
    have r4 := blk_cell RK5.out 4
    have r5 := blk_cell RK5.out 5
    have q0 := blk_frozen RK5.out 0
    have q1 := blk_frozen RK5.out 1
    have q2 := blk_frozen RK5.out 2
    have q3 := blk_frozen RK5.out 3
    have q4 := blk_frozen RK5.out 4
    have q5 := blk_frozen RK5.out 5
    go_wp2_with fail
    refine bodyPost_ret (results_cell_row rfl _ _ (w.heap.size + 1) 27 _ (0, 0) _ rfl (put6 RK5.out _ _ _ _ _ _) Try.underlying27 rfl (by kernel_rfl)) rfl ?_
    exact ⟨by rw [← HS8.out]; rfl, below6 HB5.out (Nat.le_succ _) _ _ _ _ _ _⟩
  · skip
    unfold stV
    go_enter Try.func9, Try.ntmps9
    go_wp2_with fail
    refine (shapeC _ HK.out).mono ?_
    rintro e w1 ⟨rfl, hb1⟩
    rw [shV_eq, show fa false = 34 from rfl, show fb false = 35 from rfl]
    have ST0 : Hid ((w1).heap[w.heap.size]? = some (.cells #[.int .i64 mode, .int .i64 0, .int .u32 0, .int .i32 0] 24 (0, 0))) := Lib.hid (blk_below (blk_alloc (heap_alloc_new _ _) _) hb1)
    have RK0 : Hid ((w1).heap[w.heap.size + 1]? = some (.cells #[.int .i64 0, .string ⟨#[]⟩, .int .i64 0, .int .i64 0, .int .u32 0, .int .i32 0] 27 (0, 0))) := Lib.hid (blk_below (blk_second _ _ _) hb1)
    have HB0 : Hid (Below w.heap.size w (w1)) := Lib.hid (on (below_alloc (below_alloc (Below.refl _ _) _) _) hb1)
    have hg0 : w.heap.size + 1 < w1.heap.size := blk_lt RK0.out
    clear hb1
    have hg1 : w.heap.size < w1.heap.size := by omega
    have e0 := blk_cell ST0.out 0
    have e1 := blk_cell ST0.out 1
    have e2 := blk_cell ST0.out 2
    have e3 := blk_cell ST0.out 3
    go_wp2_with fail
    have hc := fitsC 2 mode 0 0 0 false false false (w1.alloc (.cells #[.int .i64 2, .bool false, .bool false, .func (.func 34) #[] #[], .func (.func 35) #[] #[]] 48)) HF.out
    rw [shV_eq, show fa false = 34 from rfl, show fb false = 35 from rfl] at hc
    unfold stV at hc
    refine hc.mono ?_
    clear hc
    rintro e w2 ⟨rfl, hb2⟩
    clear e0 e1 e2 e3
    have ST1 : Hid ((w2).heap[w.heap.size]? = some (.cells #[.int .i64 mode, .int .i64 0, .int .u32 0, .int .i32 0] 24 (0, 0))) := Lib.hid (blk_below (blk_alloc ST0.out _) hb2)
    have RK1 : Hid ((w2).heap[w.heap.size + 1]? = some (.cells #[.int .i64 0, .string ⟨#[]⟩, .int .i64 0, .int .i64 0, .int .u32 0, .int .i32 0] 27 (0, 0))) := Lib.hid (blk_below (blk_alloc RK0.out _) hb2)
    have SK1 : Hid ((w2).heap[w1.heap.size]? = some (.cells #[.int .i64 2, .bool false, .bool false, .func (.func 34) #[] #[], .func (.func 35) #[] #[]] 48 (0, 0))) := Lib.hid (blk_below (heap_alloc_new _ _) hb2)
    have HB1 : Hid (Below w.heap.size w (w2)) := Lib.hid (on (below_alloc HB0.out _) hb2)
    clear hb2 ST0 RK0 HB0
    have hg2 : w1.heap.size < w2.heap.size := blk_lt SK1.out
    have s0 := blk_cell SK1.out 0
    have s1 := blk_cell SK1.out 1
    have s2 := blk_cell SK1.out 2
    have s3 := blk_cell SK1.out 3
    have s4 := blk_cell SK1.out 4
    go_wp2_with fail
    refine (scalarC u _).mono ?_
    rintro e w3 ⟨rfl, hd3⟩
    rw [HS.out]
    clear s0 s1 s2 s3 s4
    have hb3 := hd3.below
    have ST2 : Hid ((w3).heap[w.heap.size]? = some (.cells #[.int .i64 mode, .int .i64 0, .int .u32 0, .int .i32 0] 24 (0, 0))) := Lib.hid (blk_below ST1.out hb3)
    have RK2 : Hid ((w3).heap[w.heap.size + 1]? = some (.cells #[.int .i64 0, .string ⟨#[]⟩, .int .i64 0, .int .i64 0, .int .u32 0, .int .i32 0] 27 (0, 0))) := Lib.hid (blk_below RK1.out hb3)
    have SK2 : Hid ((w3).heap[w1.heap.size]? = some (.cells #[.int .i64 2, .bool false, .bool false, .func (.func 34) #[] #[], .func (.func 35) #[] #[]] 48 (0, 0))) := Lib.hid (blk_below SK1.out hb3)
    have HB2 : Hid (Below w.heap.size w (w3)) := Lib.hid (on HB1.out hb3)
    clear hb3 hd3 ST1 RK1 SK1 HB1
    have hg5 : w1.heap.size < w3.heap.size := blk_lt SK2.out
    have hg6 : w.heap.size + 1 < w3.heap.size := by omega
    have hg7 : w.heap.size < w3.heap.size := by omega
    have e0 := blk_cell ST2.out 0
    have e1 := blk_cell ST2.out 1
    have e2 := blk_cell ST2.out 2
    have e3 := blk_cell ST2.out 3
    have s0 := blk_cell SK2.out 0
    have s1 := blk_cell SK2.out 1
    have s2 := blk_cell SK2.out 2
    have s3 := blk_cell SK2.out 3
    have s4 := blk_cell SK2.out 4
    go_wp2_with fail
    refine (HSP.out _).mono ?_
    rintro e w4 ⟨rfl, hd4⟩
    have hb4 := hd4.below
    have ST3 : Hid ((w4).heap[w.heap.size]? = some (.cells #[.int .i64 mode, .int .i64 0, .int .u32 0, .int .i32 0] 24 (0, 0))) := Lib.hid (blk_below ST2.out hb4)
    have RK3 : Hid ((w4).heap[w.heap.size + 1]? = some (.cells #[.int .i64 0, .string ⟨#[]⟩, .int .i64 0, .int .i64 0, .int .u32 0, .int .i32 0] 27 (0, 0))) := Lib.hid (blk_below RK2.out hb4)
    have SK3 : Hid ((w4).heap[w1.heap.size]? = some (.cells #[.int .i64 2, .bool false, .bool false, .func (.func 34) #[] #[], .func (.func 35) #[] #[]] 48 (0, 0))) := Lib.hid (blk_below SK2.out hb4)
    have HB3 : Hid (Below w.heap.size w (w4)) := Lib.hid (on HB2.out hb4)
    clear e0 e1 e2 e3
    clear s0 s1 s2 s3 s4
    clear hb4 hd4 ST2 RK2 SK2 HB2
    have hg8 : w1.heap.size < w4.heap.size := blk_lt SK3.out
    have hg9 : w.heap.size + 1 < w4.heap.size := by omega
    have s0 := blk_cell SK3.out 0
    have s1 := blk_cell SK3.out 1
    have s2 := blk_cell SK3.out 2
    have s3 := blk_cell SK3.out 3
    have s4 := blk_cell SK3.out 4
    go_wp2_with fail
    refine (HBY.out _).mono ?_
    rintro e w5 ⟨v5, rfl, hown5, hb5⟩
    clear s0 s1 s2 s3 s4
    obtain ⟨A5, c5, rfl, hr5⟩ := own_reads hown5
    have ST4 : Hid ((w5).heap[w.heap.size]? = some (.cells #[.int .i64 mode, .int .i64 0, .int .u32 0, .int .i32 0] 24 (0, 0))) := Lib.hid (blk_below ST3.out hb5)
    have RK4 : Hid ((w5).heap[w.heap.size + 1]? = some (.cells #[.int .i64 0, .string ⟨#[]⟩, .int .i64 0, .int .i64 0, .int .u32 0, .int .i32 0] 27 (0, 0))) := Lib.hid (blk_below RK3.out hb5)
    have HB4 : Hid (Below w.heap.size w (w5)) := Lib.hid (on HB3.out hb5)
    have HR5 := Lib.hid hr5
    have hz5 : w4.heap.size ≤ w5.heap.size := hb5.size
    clear hr5 hown5 hb5 ST3 RK3 SK3
    go_upto_region 16 with (at_builtin; refine print_append_row w4.heap.size rfl (.tmp 90) (.tmp 98) 30 5 .u8 1 rfl Try.underlying30 info5 (by omega) (.slice none 0 0) [] l A5 l.length c5 rfl rfl (own_nil _ _ _ _) HR5.out (Below.refl w4.heap.size w5) hz5 (by simp; omega) ?_; intro v8 w8 hown8 hb8 hg8' hat8; clear hg8' hat8; have HO8 : Hid (w8.ownsRow w4.heap.size 5 1 v8 l.length (nums .u8 l)) := hown8; have HX8 := Lib.hid hb8; clear hown8 hb8)
    have ST5 : Hid ((w8).heap[w.heap.size]? = some (.cells #[.int .i64 mode, .int .i64 0, .int .u32 0, .int .i32 0] 24 (0, 0))) := Lib.hid (blk_b ST4.out HX8.out (by omega))
    have RK5 : Hid ((w8).heap[w.heap.size + 1]? = some (.cells #[.int .i64 0, .string ⟨#[]⟩, .int .i64 0, .int .i64 0, .int .u32 0, .int .i32 0] 27 (0, 0))) := Lib.hid (blk_b RK4.out HX8.out (by omega))
    have HB5 : Hid (Below w.heap.size w (w8)) := Lib.hid (below_b HB4.out HB3.out.size HX8.out)
    clear ST4 RK4 HB4 HX8 HB3
    obtain ⟨A8, c8, rfl, hr8⟩ := own_reads HO8.out
    have hcv : (convert 30 9 (.slice A8 l.length c8)).run Try.prog w8 = .ok (.string (strOfNums l)) w8 := Kd.C_string (P := Try.prog) Try.underlying30 Try.underlying5 Try.underlying9 (Kd.C_of_reads (d := (0 : Int)) hr8)
    clear hr8
    obtain ⟨S8, hS8⟩ : ∃ S, S = strOfNums l := ⟨_, rfl⟩
    rw [← hS8] at hcv
    have HS8 := Lib.hid hS8
    clear hS8
    have e0 := blk_cell ST5.out 0
    have e1 := blk_cell ST5.out 1
    have e2 := blk_cell ST5.out 2
    have e3 := blk_cell ST5.out 3
    have r0 := blk_cell RK5.out 0
    have r1 := blk_cell RK5.out 1
    have r2 := blk_cell RK5.out 2
    have r3 := blk_cell RK5.out 3
    have r4 := blk_cell RK5.out 4
    have r5 := blk_cell RK5.out 5
    have q0 := blk_frozen RK5.out 0
    have q1 := blk_frozen RK5.out 1
    have q2 := blk_frozen RK5.out 2
    have q3 := blk_frozen RK5.out 3
    have q4 := blk_frozen RK5.out 4
    have q5 := blk_frozen RK5.out 5
    go_wp2_with fail
    refine bodyPost_ret (results_cell_row rfl _ _ (w.heap.size + 1) 27 _ (0, 0) _ rfl (put6 RK5.out _ _ _ _ _ _) Try.underlying27 rfl (by kernel_rfl)) rfl ?_
    exact ⟨by rw [← HS8.out]; rfl, below6 HB5.out (Nat.le_succ _) _ _ _ _ _ _⟩
  · skip
    unfold stV
    go_enter Try.func9, Try.ntmps9
    go_wp2_with fail
    refine (shapeC _ HK.out).mono ?_
    rintro e w1 ⟨rfl, hb1⟩
    rw [shV_eq, show fa false = 34 from rfl, show fb false = 35 from rfl]
    have ST0 : Hid ((w1).heap[w.heap.size]? = some (.cells #[.int .i64 mode, .int .i64 0, .int .u32 0, .int .i32 0] 24 (0, 0))) := Lib.hid (blk_below (blk_alloc (heap_alloc_new _ _) _) hb1)
    have RK0 : Hid ((w1).heap[w.heap.size + 1]? = some (.cells #[.int .i64 0, .string ⟨#[]⟩, .int .i64 0, .int .i64 0, .int .u32 0, .int .i32 0] 27 (0, 0))) := Lib.hid (blk_below (blk_second _ _ _) hb1)
    have HB0 : Hid (Below w.heap.size w (w1)) := Lib.hid (on (below_alloc (below_alloc (Below.refl _ _) _) _) hb1)
    have hg0 : w.heap.size + 1 < w1.heap.size := blk_lt RK0.out
    clear hb1
    have hg1 : w.heap.size < w1.heap.size := by omega
    have e0 := blk_cell ST0.out 0
    have e1 := blk_cell ST0.out 1
    have e2 := blk_cell ST0.out 2
    have e3 := blk_cell ST0.out 3
    go_wp2_with fail
    have hc := fitsC 2 mode 0 0 0 true true false (w1.alloc (.cells #[.int .i64 2, .bool true, .bool true, .func (.func 34) #[] #[], .func (.func 35) #[] #[]] 48)) HF.out
    rw [shV_eq, show fa false = 34 from rfl, show fb false = 35 from rfl] at hc
    unfold stV at hc
    refine hc.mono ?_
    clear hc
    rintro e w2 ⟨rfl, hb2⟩
    clear e0 e1 e2 e3
    have ST1 : Hid ((w2).heap[w.heap.size]? = some (.cells #[.int .i64 mode, .int .i64 0, .int .u32 0, .int .i32 0] 24 (0, 0))) := Lib.hid (blk_below (blk_alloc ST0.out _) hb2)
    have RK1 : Hid ((w2).heap[w.heap.size + 1]? = some (.cells #[.int .i64 0, .string ⟨#[]⟩, .int .i64 0, .int .i64 0, .int .u32 0, .int .i32 0] 27 (0, 0))) := Lib.hid (blk_below (blk_alloc RK0.out _) hb2)
    have SK1 : Hid ((w2).heap[w1.heap.size]? = some (.cells #[.int .i64 2, .bool true, .bool true, .func (.func 34) #[] #[], .func (.func 35) #[] #[]] 48 (0, 0))) := Lib.hid (blk_below (heap_alloc_new _ _) hb2)
    have HB1 : Hid (Below w.heap.size w (w2)) := Lib.hid (on (below_alloc HB0.out _) hb2)
    clear hb2 ST0 RK0 HB0
    have hg2 : w1.heap.size < w2.heap.size := blk_lt SK1.out
    have s0 := blk_cell SK1.out 0
    have s1 := blk_cell SK1.out 1
    have s2 := blk_cell SK1.out 2
    have s3 := blk_cell SK1.out 3
    have s4 := blk_cell SK1.out 4
    go_wp2_with fail
    refine (scalarC u _).mono ?_
    rintro e w3 ⟨rfl, hd3⟩
    rw [HS.out]
    clear s0 s1 s2 s3 s4
    have hb3 := hd3.below
    have ST2 : Hid ((w3).heap[w.heap.size]? = some (.cells #[.int .i64 mode, .int .i64 0, .int .u32 0, .int .i32 0] 24 (0, 0))) := Lib.hid (blk_below ST1.out hb3)
    have RK2 : Hid ((w3).heap[w.heap.size + 1]? = some (.cells #[.int .i64 0, .string ⟨#[]⟩, .int .i64 0, .int .i64 0, .int .u32 0, .int .i32 0] 27 (0, 0))) := Lib.hid (blk_below RK1.out hb3)
    have SK2 : Hid ((w3).heap[w1.heap.size]? = some (.cells #[.int .i64 2, .bool true, .bool true, .func (.func 34) #[] #[], .func (.func 35) #[] #[]] 48 (0, 0))) := Lib.hid (blk_below SK1.out hb3)
    have HB2 : Hid (Below w.heap.size w (w3)) := Lib.hid (on HB1.out hb3)
    clear hb3 hd3 ST1 RK1 SK1 HB1
    have hg5 : w1.heap.size < w3.heap.size := blk_lt SK2.out
    have hg6 : w.heap.size + 1 < w3.heap.size := by omega
    have hg7 : w.heap.size < w3.heap.size := by omega
    have e0 := blk_cell ST2.out 0
    have e1 := blk_cell ST2.out 1
    have e2 := blk_cell ST2.out 2
    have e3 := blk_cell ST2.out 3
    have s0 := blk_cell SK2.out 0
    have s1 := blk_cell SK2.out 1
    have s2 := blk_cell SK2.out 2
    have s3 := blk_cell SK2.out 3
    have s4 := blk_cell SK2.out 4
    go_wp2_with fail
    refine (HSP.out _).mono ?_
    rintro e w4 ⟨rfl, hd4⟩
    have hb4 := hd4.below
    have ST3 : Hid ((w4).heap[w.heap.size]? = some (.cells #[.int .i64 mode, .int .i64 0, .int .u32 0, .int .i32 0] 24 (0, 0))) := Lib.hid (blk_below ST2.out hb4)
    have RK3 : Hid ((w4).heap[w.heap.size + 1]? = some (.cells #[.int .i64 0, .string ⟨#[]⟩, .int .i64 0, .int .i64 0, .int .u32 0, .int .i32 0] 27 (0, 0))) := Lib.hid (blk_below RK2.out hb4)
    have SK3 : Hid ((w4).heap[w1.heap.size]? = some (.cells #[.int .i64 2, .bool true, .bool true, .func (.func 34) #[] #[], .func (.func 35) #[] #[]] 48 (0, 0))) := Lib.hid (blk_below SK2.out hb4)
    have HB3 : Hid (Below w.heap.size w (w4)) := Lib.hid (on HB2.out hb4)
    clear e0 e1 e2 e3
    clear s0 s1 s2 s3 s4
    clear hb4 hd4 ST2 RK2 SK2 HB2
    have hg8 : w1.heap.size < w4.heap.size := blk_lt SK3.out
    have hg9 : w.heap.size + 1 < w4.heap.size := by omega
    have s0 := blk_cell SK3.out 0
    have s1 := blk_cell SK3.out 1
    have s2 := blk_cell SK3.out 2
    have s3 := blk_cell SK3.out 3
    have s4 := blk_cell SK3.out 4
    go_wp2_with fail
    refine (HBY.out _).mono ?_
    rintro e w5 ⟨v5, rfl, hown5, hb5⟩
    clear s0 s1 s2 s3 s4
    obtain ⟨A5, c5, rfl, hr5⟩ := own_reads hown5
    have ST4 : Hid ((w5).heap[w.heap.size]? = some (.cells #[.int .i64 mode, .int .i64 0, .int .u32 0, .int .i32 0] 24 (0, 0))) := Lib.hid (blk_below ST3.out hb5)
    have RK4 : Hid ((w5).heap[w.heap.size + 1]? = some (.cells #[.int .i64 0, .string ⟨#[]⟩, .int .i64 0, .int .i64 0, .int .u32 0, .int .i32 0] 27 (0, 0))) := Lib.hid (blk_below RK3.out hb5)
    have HB4 : Hid (Below w.heap.size w (w5)) := Lib.hid (on HB3.out hb5)
    have HR5 := Lib.hid hr5
    have hz5 : w4.heap.size ≤ w5.heap.size := hb5.size
    clear hr5 hown5 hb5 ST3 RK3 SK3
    go_upto_region 16 with (at_builtin; refine print_append_row w4.heap.size rfl (.tmp 90) (.tmp 98) 30 5 .u8 1 rfl Try.underlying30 info5 (by omega) (.slice none 0 0) [] l A5 l.length c5 rfl rfl (own_nil _ _ _ _) HR5.out (Below.refl w4.heap.size w5) hz5 (by simp; omega) ?_; intro v8 w8 hown8 hb8 hg8' hat8; clear hg8' hat8; have HO8 : Hid (w8.ownsRow w4.heap.size 5 1 v8 l.length (nums .u8 l)) := hown8; have HX8 := Lib.hid hb8; clear hown8 hb8)
    have ST5 : Hid ((w8).heap[w.heap.size]? = some (.cells #[.int .i64 mode, .int .i64 0, .int .u32 0, .int .i32 0] 24 (0, 0))) := Lib.hid (blk_b ST4.out HX8.out (by omega))
    have RK5 : Hid ((w8).heap[w.heap.size + 1]? = some (.cells #[.int .i64 0, .string ⟨#[]⟩, .int .i64 0, .int .i64 0, .int .u32 0, .int .i32 0] 27 (0, 0))) := Lib.hid (blk_b RK4.out HX8.out (by omega))
    have HB5 : Hid (Below w.heap.size w (w8)) := Lib.hid (below_b HB4.out HB3.out.size HX8.out)
    clear ST4 RK4 HB4 HX8 HB3
    obtain ⟨A8, c8, rfl, hr8⟩ := own_reads HO8.out
    have hcv : (convert 30 9 (.slice A8 l.length c8)).run Try.prog w8 = .ok (.string (strOfNums l)) w8 := Kd.C_string (P := Try.prog) Try.underlying30 Try.underlying5 Try.underlying9 (Kd.C_of_reads (d := (0 : Int)) hr8)
    clear hr8
    obtain ⟨S8, hS8⟩ : ∃ S, S = strOfNums l := ⟨_, rfl⟩
    rw [← hS8] at hcv
    have HS8 := Lib.hid hS8
    clear hS8
    have e0 := blk_cell ST5.out 0
    have e1 := blk_cell ST5.out 1
    have e2 := blk_cell ST5.out 2
    have e3 := blk_cell ST5.out 3
    have r0 := blk_cell RK5.out 0
    have r1 := blk_cell RK5.out 1
    have r2 := blk_cell RK5.out 2
    have r3 := blk_cell RK5.out 3
    have r4 := blk_cell RK5.out 4
    have r5 := blk_cell RK5.out 5
    have q0 := blk_frozen RK5.out 0
    have q1 := blk_frozen RK5.out 1
    have q2 := blk_frozen RK5.out 2
    have q3 := blk_frozen RK5.out 3
    have q4 := blk_frozen RK5.out 4
    have q5 := blk_frozen RK5.out 5
    go_wp2_with fail
    refine bodyPost_ret (results_cell_row rfl _ _ (w.heap.size + 1) 27 _ (0, 0) _ rfl (put6 RK5.out _ _ _ _ _ _) Try.underlying27 rfl (by kernel_rfl)) rfl ?_
    exact ⟨by rw [← HS8.out]; rfl, below6 HB5.out (Nat.le_succ _) _ _ _ _ _ _⟩
  · skip
    unfold stV
    go_enter Try.func9, Try.ntmps9
    go_wp2_with fail
    refine (shapeC _ HK.out).mono ?_
    rintro e w1 ⟨rfl, hb1⟩
    rw [shV_eq, show fa false = 34 from rfl, show fb false = 35 from rfl]
    have ST0 : Hid ((w1).heap[w.heap.size]? = some (.cells #[.int .i64 mode, .int .i64 0, .int .u32 0, .int .i32 0] 24 (0, 0))) := Lib.hid (blk_below (blk_alloc (heap_alloc_new _ _) _) hb1)
    have RK0 : Hid ((w1).heap[w.heap.size + 1]? = some (.cells #[.int .i64 0, .string ⟨#[]⟩, .int .i64 0, .int .i64 0, .int .u32 0, .int .i32 0] 27 (0, 0))) := Lib.hid (blk_below (blk_second _ _ _) hb1)
    have HB0 : Hid (Below w.heap.size w (w1)) := Lib.hid (on (below_alloc (below_alloc (Below.refl _ _) _) _) hb1)
    have hg0 : w.heap.size + 1 < w1.heap.size := blk_lt RK0.out
    clear hb1
    have hg1 : w.heap.size < w1.heap.size := by omega
    have e0 := blk_cell ST0.out 0
    have e1 := blk_cell ST0.out 1
    have e2 := blk_cell ST0.out 2
    have e3 := blk_cell ST0.out 3
    go_wp2_with fail
    have hc := fitsC 2 mode 0 0 0 false true false (w1.alloc (.cells #[.int .i64 2, .bool false, .bool true, .func (.func 34) #[] #[], .func (.func 35) #[] #[]] 48)) HF.out
    rw [shV_eq, show fa false = 34 from rfl, show fb false = 35 from rfl] at hc
    unfold stV at hc
    refine hc.mono ?_
    clear hc
    rintro e w2 ⟨rfl, hb2⟩
    clear e0 e1 e2 e3
    have ST1 : Hid ((w2).heap[w.heap.size]? = some (.cells #[.int .i64 mode, .int .i64 0, .int .u32 0, .int .i32 0] 24 (0, 0))) := Lib.hid (blk_below (blk_alloc ST0.out _) hb2)
    have RK1 : Hid ((w2).heap[w.heap.size + 1]? = some (.cells #[.int .i64 0, .string ⟨#[]⟩, .int .i64 0, .int .i64 0, .int .u32 0, .int .i32 0] 27 (0, 0))) := Lib.hid (blk_below (blk_alloc RK0.out _) hb2)
    have SK1 : Hid ((w2).heap[w1.heap.size]? = some (.cells #[.int .i64 2, .bool false, .bool true, .func (.func 34) #[] #[], .func (.func 35) #[] #[]] 48 (0, 0))) := Lib.hid (blk_below (heap_alloc_new _ _) hb2)
    have HB1 : Hid (Below w.heap.size w (w2)) := Lib.hid (on (below_alloc HB0.out _) hb2)
    clear hb2 ST0 RK0 HB0
    have hg2 : w1.heap.size < w2.heap.size := blk_lt SK1.out
    have s0 := blk_cell SK1.out 0
    have s1 := blk_cell SK1.out 1
    have s2 := blk_cell SK1.out 2
    have s3 := blk_cell SK1.out 3
    have s4 := blk_cell SK1.out 4
    go_wp2_with fail
    refine (scalarC u _).mono ?_
    rintro e w3 ⟨rfl, hd3⟩
    rw [HS.out]
    clear s0 s1 s2 s3 s4
    have hb3 := hd3.below
    have ST2 : Hid ((w3).heap[w.heap.size]? = some (.cells #[.int .i64 mode, .int .i64 0, .int .u32 0, .int .i32 0] 24 (0, 0))) := Lib.hid (blk_below ST1.out hb3)
    have RK2 : Hid ((w3).heap[w.heap.size + 1]? = some (.cells #[.int .i64 0, .string ⟨#[]⟩, .int .i64 0, .int .i64 0, .int .u32 0, .int .i32 0] 27 (0, 0))) := Lib.hid (blk_below RK1.out hb3)
    have SK2 : Hid ((w3).heap[w1.heap.size]? = some (.cells #[.int .i64 2, .bool false, .bool true, .func (.func 34) #[] #[], .func (.func 35) #[] #[]] 48 (0, 0))) := Lib.hid (blk_below SK1.out hb3)
    have HB2 : Hid (Below w.heap.size w (w3)) := Lib.hid (on HB1.out hb3)
    clear hb3 hd3 ST1 RK1 SK1 HB1
    have hg5 : w1.heap.size < w3.heap.size := blk_lt SK2.out
    have hg6 : w.heap.size + 1 < w3.heap.size := by omega
    have hg7 : w.heap.size < w3.heap.size := by omega
    have e0 := blk_cell ST2.out 0
    have e1 := blk_cell ST2.out 1
    have e2 := blk_cell ST2.out 2
    have e3 := blk_cell ST2.out 3
    have s0 := blk_cell SK2.out 0
    have s1 := blk_cell SK2.out 1
    have s2 := blk_cell SK2.out 2
    have s3 := blk_cell SK2.out 3
    have s4 := blk_cell SK2.out 4
    go_wp2_with fail
    refine (HSP.out _).mono ?_
    rintro e w4 ⟨rfl, hd4⟩
    have hb4 := hd4.below
    have ST3 : Hid ((w4).heap[w.heap.size]? = some (.cells #[.int .i64 mode, .int .i64 0, .int .u32 0, .int .i32 0] 24 (0, 0))) := Lib.hid (blk_below ST2.out hb4)
    have RK3 : Hid ((w4).heap[w.heap.size + 1]? = some (.cells #[.int .i64 0, .string ⟨#[]⟩, .int .i64 0, .int .i64 0, .int .u32 0, .int .i32 0] 27 (0, 0))) := Lib.hid (blk_below RK2.out hb4)
    have SK3 : Hid ((w4).heap[w1.heap.size]? = some (.cells #[.int .i64 2, .bool false, .bool true, .func (.func 34) #[] #[], .func (.func 35) #[] #[]] 48 (0, 0))) := Lib.hid (blk_below SK2.out hb4)
    have HB3 : Hid (Below w.heap.size w (w4)) := Lib.hid (on HB2.out hb4)
    clear e0 e1 e2 e3
    clear s0 s1 s2 s3 s4
    clear hb4 hd4 ST2 RK2 SK2 HB2
    have hg8 : w1.heap.size < w4.heap.size := blk_lt SK3.out
    have hg9 : w.heap.size + 1 < w4.heap.size := by omega
    have s0 := blk_cell SK3.out 0
    have s1 := blk_cell SK3.out 1
    have s2 := blk_cell SK3.out 2
    have s3 := blk_cell SK3.out 3
    have s4 := blk_cell SK3.out 4
    go_wp2_with fail
    refine (HBY.out _).mono ?_
    rintro e w5 ⟨v5, rfl, hown5, hb5⟩
    clear s0 s1 s2 s3 s4
    obtain ⟨A5, c5, rfl, hr5⟩ := own_reads hown5
    have ST4 : Hid ((w5).heap[w.heap.size]? = some (.cells #[.int .i64 mode, .int .i64 0, .int .u32 0, .int .i32 0] 24 (0, 0))) := Lib.hid (blk_below ST3.out hb5)
    have RK4 : Hid ((w5).heap[w.heap.size + 1]? = some (.cells #[.int .i64 0, .string ⟨#[]⟩, .int .i64 0, .int .i64 0, .int .u32 0, .int .i32 0] 27 (0, 0))) := Lib.hid (blk_below RK3.out hb5)
    have HB4 : Hid (Below w.heap.size w (w5)) := Lib.hid (on HB3.out hb5)
    have HR5 := Lib.hid hr5
    have hz5 : w4.heap.size ≤ w5.heap.size := hb5.size
    clear hr5 hown5 hb5 ST3 RK3 SK3
    go_upto_region 16 with (at_builtin; refine print_append_row w4.heap.size rfl (.tmp 90) (.tmp 98) 30 5 .u8 1 rfl Try.underlying30 info5 (by omega) (.slice none 0 0) [] l A5 l.length c5 rfl rfl (own_nil _ _ _ _) HR5.out (Below.refl w4.heap.size w5) hz5 (by simp; omega) ?_; intro v8 w8 hown8 hb8 hg8' hat8; clear hg8' hat8; have HO8 : Hid (w8.ownsRow w4.heap.size 5 1 v8 l.length (nums .u8 l)) := hown8; have HX8 := Lib.hid hb8; clear hown8 hb8)
    have ST5 : Hid ((w8).heap[w.heap.size]? = some (.cells #[.int .i64 mode, .int .i64 0, .int .u32 0, .int .i32 0] 24 (0, 0))) := Lib.hid (blk_b ST4.out HX8.out (by omega))
    have RK5 : Hid ((w8).heap[w.heap.size + 1]? = some (.cells #[.int .i64 0, .string ⟨#[]⟩, .int .i64 0, .int .i64 0, .int .u32 0, .int .i32 0] 27 (0, 0))) := Lib.hid (blk_b RK4.out HX8.out (by omega))
    have HB5 : Hid (Below w.heap.size w (w8)) := Lib.hid (below_b HB4.out HB3.out.size HX8.out)
    clear ST4 RK4 HB4 HX8 HB3
    obtain ⟨A8, c8, rfl, hr8⟩ := own_reads HO8.out
    have hcv : (convert 30 9 (.slice A8 l.length c8)).run Try.prog w8 = .ok (.string (strOfNums l)) w8 := Kd.C_string (P := Try.prog) Try.underlying30 Try.underlying5 Try.underlying9 (Kd.C_of_reads (d := (0 : Int)) hr8)
    clear hr8
    obtain ⟨S8, hS8⟩ : ∃ S, S = strOfNums l := ⟨_, rfl⟩
    rw [← hS8] at hcv
    have HS8 := Lib.hid hS8
    clear hS8
    have e0 := blk_cell ST5.out 0
    have e1 := blk_cell ST5.out 1
    have e2 := blk_cell ST5.out 2
    have e3 := blk_cell ST5.out 3
    have r0 := blk_cell RK5.out 0
    have r1 := blk_cell RK5.out 1
    have r2 := blk_cell RK5.out 2
    have r3 := blk_cell RK5.out 3
    have r4 := blk_cell RK5.out 4
    have r5 := blk_cell RK5.out 5
    have q0 := blk_frozen RK5.out 0
    have q1 := blk_frozen RK5.out 1
    have q2 := blk_frozen RK5.out 2
    have q3 := blk_frozen RK5.out 3
    have q4 := blk_frozen RK5.out 4
    have q5 := blk_frozen RK5.out 5
    go_wp2_with fail
    refine bodyPost_ret (results_cell_row rfl _ _ (w.heap.size + 1) 27 _ (0, 0) _ rfl (put6 RK5.out _ _ _ _ _ _) Try.underlying27 rfl (by kernel_rfl)) rfl ?_
    exact ⟨by rw [← HS8.out]; rfl, below6 HB5.out (Nat.le_succ _) _ _ _ _ _ _⟩
set_option maxHeartbeats 4000000 in
set_option maxRecDepth 100000 in
theorem set_one_true2 (kind mode u x y : Int) (pairs marks t : Bool) (w : World) (hk : shp kind mode = some (2, pairs, marks, true)) (hf : Fit marks mode 0 0 0) (hm : marks = true → (mode == 0) = false) (hs : Scal u) (hsp : ∀ W, Calls Try.prog 20 #[.int .i32 u] W fun e w' => e = .returned (.tuple #[.int .i32 x, .int .i32 y, .bool t]) ∧ Drawn0 W w') (ht : t = false) (hp : pairs = true ∨ u < 65536) :
    Calls Try.prog 9 #[.int .i64 kind, stV mode 0 0 0, .int .i32 u] w fun en w' => en = .returned (putV 0 (strOfNums (un true 2 u)) mode) ∧ Below w.heap.size w w' := by
  have HBY : Hid (∀ W, Calls Try.prog 37 #[.int .u32 u, .int .i64 2] W (BytesEnd W (un true 2 u))) := Lib.hid (fun W => littleS 2 u W (by decide))
  have hl4 : (un true 2 u).length ≤ 4 := by have := un_len true (show (2 : Int) = 2 ∨ (2 : Int) = 4 by decide) u; omega
  generalize un true 2 u = l at *
  have hxm : u % 4294967296 = u := by unfold Scal at hs; omega
  have HS : Hid (decide (Scal u) = true) := Lib.hid (decide_eq_true hs)
  have HSP := Lib.hid hsp
  have HK := Lib.hid hk
  have HF := Lib.hid hf
  have HM := Lib.hid hm
  clear hk hf hsp hs hm
  subst ht
  have hmm : marks = false ∨ (marks = true ∧ (mode == 0) = false) := by cases marks; exact .inl rfl; exact .inr ⟨rfl, HM.out rfl⟩
  have hpp : pairs = true ∨ (pairs = false ∧ ¬ 65535 < u) := by cases pairs; exact .inr ⟨rfl, by rcases hp with h | h; cases h; omega⟩; exact .inl rfl
  clear hp HM
  rcases hmm with rfl | ⟨rfl, hmm⟩ <;> rcases hpp with rfl | ⟨rfl, hpp⟩
  · skip
    unfold stV
    go_enter Try.func9, Try.ntmps9
    go_wp2_with fail
    refine (shapeC _ HK.out).mono ?_
    rintro e w1 ⟨rfl, hb1⟩
    rw [shV_eq, show fa true = 36 from rfl, show fb true = 37 from rfl]
    have ST0 : Hid ((w1).heap[w.heap.size]? = some (.cells #[.int .i64 mode, .int .i64 0, .int .u32 0, .int .i32 0] 24 (0, 0))) := Lib.hid (blk_below (blk_alloc (heap_alloc_new _ _) _) hb1)
    have RK0 : Hid ((w1).heap[w.heap.size + 1]? = some (.cells #[.int .i64 0, .string ⟨#[]⟩, .int .i64 0, .int .i64 0, .int .u32 0, .int .i32 0] 27 (0, 0))) := Lib.hid (blk_below (blk_second _ _ _) hb1)
    have HB0 : Hid (Below w.heap.size w (w1)) := Lib.hid (on (below_alloc (below_alloc (Below.refl _ _) _) _) hb1)
    have hg0 : w.heap.size + 1 < w1.heap.size := blk_lt RK0.out
    clear hb1
    have hg1 : w.heap.size < w1.heap.size := by omega
    have e0 := blk_cell ST0.out 0
    have e1 := blk_cell ST0.out 1
    have e2 := blk_cell ST0.out 2
    have e3 := blk_cell ST0.out 3
    go_wp2_with fail
    have hc := fitsC 2 mode 0 0 0 true false true (w1.alloc (.cells #[.int .i64 2, .bool true, .bool false, .func (.func 36) #[] #[], .func (.func 37) #[] #[]] 48)) HF.out
    rw [shV_eq, show fa true = 36 from rfl, show fb true = 37 from rfl] at hc
    unfold stV at hc
    refine hc.mono ?_
    clear hc
    rintro e w2 ⟨rfl, hb2⟩
    clear e0 e1 e2 e3
    have ST1 : Hid ((w2).heap[w.heap.size]? = some (.cells #[.int .i64 mode, .int .i64 0, .int .u32 0, .int .i32 0] 24 (0, 0))) := Lib.hid (blk_below (blk_alloc ST0.out _) hb2)
    have RK1 : Hid ((w2).heap[w.heap.size + 1]? = some (.cells #[.int .i64 0, .string ⟨#[]⟩, .int .i64 0, .int .i64 0, .int .u32 0, .int .i32 0] 27 (0, 0))) := Lib.hid (blk_below (blk_alloc RK0.out _) hb2)
    have SK1 : Hid ((w2).heap[w1.heap.size]? = some (.cells #[.int .i64 2, .bool true, .bool false, .func (.func 36) #[] #[], .func (.func 37) #[] #[]] 48 (0, 0))) := Lib.hid (blk_below (heap_alloc_new _ _) hb2)
    have HB1 : Hid (Below w.heap.size w (w2)) := Lib.hid (on (below_alloc HB0.out _) hb2)
    clear hb2 ST0 RK0 HB0
    have hg2 : w1.heap.size < w2.heap.size := blk_lt SK1.out
    have s0 := blk_cell SK1.out 0
    have s1 := blk_cell SK1.out 1
    have s2 := blk_cell SK1.out 2
    have s3 := blk_cell SK1.out 3
    have s4 := blk_cell SK1.out 4
    go_wp2_with fail
    refine (scalarC u _).mono ?_
    rintro e w3 ⟨rfl, hd3⟩
    rw [HS.out]
    clear s0 s1 s2 s3 s4
    have hb3 := hd3.below
    have ST2 : Hid ((w3).heap[w.heap.size]? = some (.cells #[.int .i64 mode, .int .i64 0, .int .u32 0, .int .i32 0] 24 (0, 0))) := Lib.hid (blk_below ST1.out hb3)
    have RK2 : Hid ((w3).heap[w.heap.size + 1]? = some (.cells #[.int .i64 0, .string ⟨#[]⟩, .int .i64 0, .int .i64 0, .int .u32 0, .int .i32 0] 27 (0, 0))) := Lib.hid (blk_below RK1.out hb3)
    have SK2 : Hid ((w3).heap[w1.heap.size]? = some (.cells #[.int .i64 2, .bool true, .bool false, .func (.func 36) #[] #[], .func (.func 37) #[] #[]] 48 (0, 0))) := Lib.hid (blk_below SK1.out hb3)
    have HB2 : Hid (Below w.heap.size w (w3)) := Lib.hid (on HB1.out hb3)
    clear hb3 hd3 ST1 RK1 SK1 HB1
    have hg5 : w1.heap.size < w3.heap.size := blk_lt SK2.out
    have hg6 : w.heap.size + 1 < w3.heap.size := by omega
    have hg7 : w.heap.size < w3.heap.size := by omega
    have e0 := blk_cell ST2.out 0
    have e1 := blk_cell ST2.out 1
    have e2 := blk_cell ST2.out 2
    have e3 := blk_cell ST2.out 3
    have s0 := blk_cell SK2.out 0
    have s1 := blk_cell SK2.out 1
    have s2 := blk_cell SK2.out 2
    have s3 := blk_cell SK2.out 3
    have s4 := blk_cell SK2.out 4
    go_wp2_with fail
    refine (HSP.out _).mono ?_
    rintro e w4 ⟨rfl, hd4⟩
    have hb4 := hd4.below
    have ST3 : Hid ((w4).heap[w.heap.size]? = some (.cells #[.int .i64 mode, .int .i64 0, .int .u32 0, .int .i32 0] 24 (0, 0))) := Lib.hid (blk_below ST2.out hb4)
    have RK3 : Hid ((w4).heap[w.heap.size + 1]? = some (.cells #[.int .i64 0, .string ⟨#[]⟩, .int .i64 0, .int .i64 0, .int .u32 0, .int .i32 0] 27 (0, 0))) := Lib.hid (blk_below RK2.out hb4)
    have SK3 : Hid ((w4).heap[w1.heap.size]? = some (.cells #[.int .i64 2, .bool true, .bool false, .func (.func 36) #[] #[], .func (.func 37) #[] #[]] 48 (0, 0))) := Lib.hid (blk_below SK2.out hb4)
    have HB3 : Hid (Below w.heap.size w (w4)) := Lib.hid (on HB2.out hb4)
    clear e0 e1 e2 e3
    clear s0 s1 s2 s3 s4
    clear hb4 hd4 ST2 RK2 SK2 HB2
    have hg8 : w1.heap.size < w4.heap.size := blk_lt SK3.out
    have hg9 : w.heap.size + 1 < w4.heap.size := by omega
    have s0 := blk_cell SK3.out 0
    have s1 := blk_cell SK3.out 1
    have s2 := blk_cell SK3.out 2
    have s3 := blk_cell SK3.out 3
    have s4 := blk_cell SK3.out 4
    go_wp2_with fail
    refine (HBY.out _).mono ?_
    rintro e w5 ⟨v5, rfl, hown5, hb5⟩
    clear s0 s1 s2 s3 s4
    obtain ⟨A5, c5, rfl, hr5⟩ := own_reads hown5
    have ST4 : Hid ((w5).heap[w.heap.size]? = some (.cells #[.int .i64 mode, .int .i64 0, .int .u32 0, .int .i32 0] 24 (0, 0))) := Lib.hid (blk_below ST3.out hb5)
    have RK4 : Hid ((w5).heap[w.heap.size + 1]? = some (.cells #[.int .i64 0, .string ⟨#[]⟩, .int .i64 0, .int .i64 0, .int .u32 0, .int .i32 0] 27 (0, 0))) := Lib.hid (blk_below RK3.out hb5)
    have HB4 : Hid (Below w.heap.size w (w5)) := Lib.hid (on HB3.out hb5)
    have HR5 := Lib.hid hr5
    have hz5 : w4.heap.size ≤ w5.heap.size := hb5.size
    clear hr5 hown5 hb5 ST3 RK3 SK3
    go_upto_region 16 with (at_builtin; refine print_append_row w4.heap.size rfl (.tmp 90) (.tmp 98) 30 5 .u8 1 rfl Try.underlying30 info5 (by omega) (.slice none 0 0) [] l A5 l.length c5 rfl rfl (own_nil _ _ _ _) HR5.out (Below.refl w4.heap.size w5) hz5 (by simp; omega) ?_; intro v8 w8 hown8 hb8 hg8' hat8; clear hg8' hat8; have HO8 : Hid (w8.ownsRow w4.heap.size 5 1 v8 l.length (nums .u8 l)) := hown8; have HX8 := Lib.hid hb8; clear hown8 hb8)
    have ST5 : Hid ((w8).heap[w.heap.size]? = some (.cells #[.int .i64 mode, .int .i64 0, .int .u32 0, .int .i32 0] 24 (0, 0))) := Lib.hid (blk_b ST4.out HX8.out (by omega))
    have RK5 : Hid ((w8).heap[w.heap.size + 1]? = some (.cells #[.int .i64 0, .string ⟨#[]⟩, .int .i64 0, .int .i64 0, .int .u32 0, .int .i32 0] 27 (0, 0))) := Lib.hid (blk_b RK4.out HX8.out (by omega))
    have HB5 : Hid (Below w.heap.size w (w8)) := Lib.hid (below_b HB4.out HB3.out.size HX8.out)
    clear ST4 RK4 HB4 HX8 HB3
    obtain ⟨A8, c8, rfl, hr8⟩ := own_reads HO8.out
    have hcv : (convert 30 9 (.slice A8 l.length c8)).run Try.prog w8 = .ok (.string (strOfNums l)) w8 := Kd.C_string (P := Try.prog) Try.underlying30 Try.underlying5 Try.underlying9 (Kd.C_of_reads (d := (0 : Int)) hr8)
    clear hr8
    obtain ⟨S8, hS8⟩ : ∃ S, S = strOfNums l := ⟨_, rfl⟩
    rw [← hS8] at hcv
    have HS8 := Lib.hid hS8
    clear hS8
    have e0 := blk_cell ST5.out 0
    have e1 := blk_cell ST5.out 1
    have e2 := blk_cell ST5.out 2
    have e3 := blk_cell ST5.out 3
    have r0 := blk_cell RK5.out 0
    have r1 := blk_cell RK5.out 1
    have r2 := blk_cell RK5.out 2
    have r3 := blk_cell RK5.out 3
    have r4 := blk_cell RK5.out 4
    have r5 := blk_cell RK5.out 5
    have q0 := blk_frozen RK5.out 0
    have q1 := blk_frozen RK5.out 1
    have q2 := blk_frozen RK5.out 2
    have q3 := blk_frozen RK5.out 3
    have q4 := blk_frozen RK5.out 4
    have q5 := blk_frozen RK5.out 5
    go_wp2_with fail
    refine bodyPost_ret (results_cell_row rfl _ _ (w.heap.size + 1) 27 _ (0, 0) _ rfl (put6 RK5.out _ _ _ _ _ _) Try.underlying27 rfl (by kernel_rfl)) rfl ?_
    exact ⟨by rw [← HS8.out]; rfl, below6 HB5.out (Nat.le_succ _) _ _ _ _ _ _⟩
  · skip
    unfold stV
    go_enter Try.func9, Try.ntmps9
    go_wp2_with fail
    refine (shapeC _ HK.out).mono ?_
    rintro e w1 ⟨rfl, hb1⟩
    rw [shV_eq, show fa true = 36 from rfl, show fb true = 37 from rfl]
    have ST0 : Hid ((w1).heap[w.heap.size]? = some (.cells #[.int .i64 mode, .int .i64 0, .int .u32 0, .int .i32 0] 24 (0, 0))) := Lib.hid (blk_below (blk_alloc (heap_alloc_new _ _) _) hb1)
    have RK0 : Hid ((w1).heap[w.heap.size + 1]? = some (.cells #[.int .i64 0, .string ⟨#[]⟩, .int .i64 0, .int .i64 0, .int .u32 0, .int .i32 0] 27 (0, 0))) := Lib.hid (blk_below (blk_second _ _ _) hb1)
    have HB0 : Hid (Below w.heap.size w (w1)) := Lib.hid (on (below_alloc (below_alloc (Below.refl _ _) _) _) hb1)
    have hg0 : w.heap.size + 1 < w1.heap.size := blk_lt RK0.out
    clear hb1
    have hg1 : w.heap.size < w1.heap.size := by omega
    have e0 := blk_cell ST0.out 0
    have e1 := blk_cell ST0.out 1
    have e2 := blk_cell ST0.out 2
    have e3 := blk_cell ST0.out 3
    go_wp2_with fail
    have hc := fitsC 2 mode 0 0 0 false false true (w1.alloc (.cells #[.int .i64 2, .bool false, .bool false, .func (.func 36) #[] #[], .func (.func 37) #[] #[]] 48)) HF.out
    rw [shV_eq, show fa true = 36 from rfl, show fb true = 37 from rfl] at hc
    unfold stV at hc
    refine hc.mono ?_
    clear hc
    rintro e w2 ⟨rfl, hb2⟩
    clear e0 e1 e2 e3
    have ST1 : Hid ((w2).heap[w.heap.size]? = some (.cells #[.int .i64 mode, .int .i64 0, .int .u32 0, .int .i32 0] 24 (0, 0))) := Lib.hid (blk_below (blk_alloc ST0.out _) hb2)
    have RK1 : Hid ((w2).heap[w.heap.size + 1]? = some (.cells #[.int .i64 0, .string ⟨#[]⟩, .int .i64 0, .int .i64 0, .int .u32 0, .int .i32 0] 27 (0, 0))) := Lib.hid (blk_below (blk_alloc RK0.out _) hb2)
    have SK1 : Hid ((w2).heap[w1.heap.size]? = some (.cells #[.int .i64 2, .bool false, .bool false, .func (.func 36) #[] #[], .func (.func 37) #[] #[]] 48 (0, 0))) := Lib.hid (blk_below (heap_alloc_new _ _) hb2)
    have HB1 : Hid (Below w.heap.size w (w2)) := Lib.hid (on (below_alloc HB0.out _) hb2)
    clear hb2 ST0 RK0 HB0
    have hg2 : w1.heap.size < w2.heap.size := blk_lt SK1.out
    have s0 := blk_cell SK1.out 0
    have s1 := blk_cell SK1.out 1
    have s2 := blk_cell SK1.out 2
    have s3 := blk_cell SK1.out 3
    have s4 := blk_cell SK1.out 4
    go_wp2_with fail
    refine (scalarC u _).mono ?_
    rintro e w3 ⟨rfl, hd3⟩
    rw [HS.out]
    clear s0 s1 s2 s3 s4
    have hb3 := hd3.below
    have ST2 : Hid ((w3).heap[w.heap.size]? = some (.cells #[.int .i64 mode, .int .i64 0, .int .u32 0, .int .i32 0] 24 (0, 0))) := Lib.hid (blk_below ST1.out hb3)
    have RK2 : Hid ((w3).heap[w.heap.size + 1]? = some (.cells #[.int .i64 0, .string ⟨#[]⟩, .int .i64 0, .int .i64 0, .int .u32 0, .int .i32 0] 27 (0, 0))) := Lib.hid (blk_below RK1.out hb3)
    have SK2 : Hid ((w3).heap[w1.heap.size]? = some (.cells #[.int .i64 2, .bool false, .bool false, .func (.func 36) #[] #[], .func (.func 37) #[] #[]] 48 (0, 0))) := Lib.hid (blk_below SK1.out hb3)
    have HB2 : Hid (Below w.heap.size w (w3)) := Lib.hid (on HB1.out hb3)
    clear hb3 hd3 ST1 RK1 SK1 HB1
    have hg5 : w1.heap.size < w3.heap.size := blk_lt SK2.out
    have hg6 : w.heap.size + 1 < w3.heap.size := by omega
    have hg7 : w.heap.size < w3.heap.size := by omega
    have e0 := blk_cell ST2.out 0
    have e1 := blk_cell ST2.out 1
    have e2 := blk_cell ST2.out 2
    have e3 := blk_cell ST2.out 3
    have s0 := blk_cell SK2.out 0
    have s1 := blk_cell SK2.out 1
    have s2 := blk_cell SK2.out 2
    have s3 := blk_cell SK2.out 3
    have s4 := blk_cell SK2.out 4
    go_wp2_with fail
    refine (HSP.out _).mono ?_
    rintro e w4 ⟨rfl, hd4⟩
    have hb4 := hd4.below
    have ST3 : Hid ((w4).heap[w.heap.size]? = some (.cells #[.int .i64 mode, .int .i64 0, .int .u32 0, .int .i32 0] 24 (0, 0))) := Lib.hid (blk_below ST2.out hb4)
    have RK3 : Hid ((w4).heap[w.heap.size + 1]? = some (.cells #[.int .i64 0, .string ⟨#[]⟩, .int .i64 0, .int .i64 0, .int .u32 0, .int .i32 0] 27 (0, 0))) := Lib.hid (blk_below RK2.out hb4)
    have SK3 : Hid ((w4).heap[w1.heap.size]? = some (.cells #[.int .i64 2, .bool false, .bool false, .func (.func 36) #[] #[], .func (.func 37) #[] #[]] 48 (0, 0))) := Lib.hid (blk_below SK2.out hb4)
    have HB3 : Hid (Below w.heap.size w (w4)) := Lib.hid (on HB2.out hb4)
    clear e0 e1 e2 e3
    clear s0 s1 s2 s3 s4
    clear hb4 hd4 ST2 RK2 SK2 HB2
    have hg8 : w1.heap.size < w4.heap.size := blk_lt SK3.out
    have hg9 : w.heap.size + 1 < w4.heap.size := by omega
    have s0 := blk_cell SK3.out 0
    have s1 := blk_cell SK3.out 1
    have s2 := blk_cell SK3.out 2
    have s3 := blk_cell SK3.out 3
    have s4 := blk_cell SK3.out 4
    go_wp2_with fail
    refine (HBY.out _).mono ?_
    rintro e w5 ⟨v5, rfl, hown5, hb5⟩
    clear s0 s1 s2 s3 s4
    obtain ⟨A5, c5, rfl, hr5⟩ := own_reads hown5
    have ST4 : Hid ((w5).heap[w.heap.size]? = some (.cells #[.int .i64 mode, .int .i64 0, .int .u32 0, .int .i32 0] 24 (0, 0))) := Lib.hid (blk_below ST3.out hb5)
    have RK4 : Hid ((w5).heap[w.heap.size + 1]? = some (.cells #[.int .i64 0, .string ⟨#[]⟩, .int .i64 0, .int .i64 0, .int .u32 0, .int .i32 0] 27 (0, 0))) := Lib.hid (blk_below RK3.out hb5)
    have HB4 : Hid (Below w.heap.size w (w5)) := Lib.hid (on HB3.out hb5)
    have HR5 := Lib.hid hr5
    have hz5 : w4.heap.size ≤ w5.heap.size := hb5.size
    clear hr5 hown5 hb5 ST3 RK3 SK3
    go_upto_region 16 with (at_builtin; refine print_append_row w4.heap.size rfl (.tmp 90) (.tmp 98) 30 5 .u8 1 rfl Try.underlying30 info5 (by omega) (.slice none 0 0) [] l A5 l.length c5 rfl rfl (own_nil _ _ _ _) HR5.out (Below.refl w4.heap.size w5) hz5 (by simp; omega) ?_; intro v8 w8 hown8 hb8 hg8' hat8; clear hg8' hat8; have HO8 : Hid (w8.ownsRow w4.heap.size 5 1 v8 l.length (nums .u8 l)) := hown8; have HX8 := Lib.hid hb8; clear hown8 hb8)
    have ST5 : Hid ((w8).heap[w.heap.size]? = some (.cells #[.int .i64 mode, .int .i64 0, .int .u32 0, .int .i32 0] 24 (0, 0))) := Lib.hid (blk_b ST4.out HX8.out (by omega))
    have RK5 : Hid ((w8).heap[w.heap.size + 1]? = some (.cells #[.int .i64 0, .string ⟨#[]⟩, .int .i64 0, .int .i64 0, .int .u32 0, .int .i32 0] 27 (0, 0))) := Lib.hid (blk_b RK4.out HX8.out (by omega))
    have HB5 : Hid (Below w.heap.size w (w8)) := Lib.hid (below_b HB4.out HB3.out.size HX8.out)
    clear ST4 RK4 HB4 HX8 HB3
    obtain ⟨A8, c8, rfl, hr8⟩ := own_reads HO8.out
    have hcv : (convert 30 9 (.slice A8 l.length c8)).run Try.prog w8 = .ok (.string (strOfNums l)) w8 := Kd.C_string (P := Try.prog) Try.underlying30 Try.underlying5 Try.underlying9 (Kd.C_of_reads (d := (0 : Int)) hr8)
    clear hr8
    obtain ⟨S8, hS8⟩ : ∃ S, S = strOfNums l := ⟨_, rfl⟩
    rw [← hS8] at hcv
    have HS8 := Lib.hid hS8
    clear hS8
    have e0 := blk_cell ST5.out 0
    have e1 := blk_cell ST5.out 1
    have e2 := blk_cell ST5.out 2
    have e3 := blk_cell ST5.out 3
    have r0 := blk_cell RK5.out 0
    have r1 := blk_cell RK5.out 1
    have r2 := blk_cell RK5.out 2
    have r3 := blk_cell RK5.out 3
    have r4 := blk_cell RK5.out 4
    have r5 := blk_cell RK5.out 5
    have q0 := blk_frozen RK5.out 0
    have q1 := blk_frozen RK5.out 1
    have q2 := blk_frozen RK5.out 2
    have q3 := blk_frozen RK5.out 3
    have q4 := blk_frozen RK5.out 4
    have q5 := blk_frozen RK5.out 5
    go_wp2_with fail
    refine bodyPost_ret (results_cell_row rfl _ _ (w.heap.size + 1) 27 _ (0, 0) _ rfl (put6 RK5.out _ _ _ _ _ _) Try.underlying27 rfl (by kernel_rfl)) rfl ?_
    exact ⟨by rw [← HS8.out]; rfl, below6 HB5.out (Nat.le_succ _) _ _ _ _ _ _⟩
  · skip
    unfold stV
    go_enter Try.func9, Try.ntmps9
    go_wp2_with fail
    refine (shapeC _ HK.out).mono ?_
    rintro e w1 ⟨rfl, hb1⟩
    rw [shV_eq, show fa true = 36 from rfl, show fb true = 37 from rfl]
    have ST0 : Hid ((w1).heap[w.heap.size]? = some (.cells #[.int .i64 mode, .int .i64 0, .int .u32 0, .int .i32 0] 24 (0, 0))) := Lib.hid (blk_below (blk_alloc (heap_alloc_new _ _) _) hb1)
    have RK0 : Hid ((w1).heap[w.heap.size + 1]? = some (.cells #[.int .i64 0, .string ⟨#[]⟩, .int .i64 0, .int .i64 0, .int .u32 0, .int .i32 0] 27 (0, 0))) := Lib.hid (blk_below (blk_second _ _ _) hb1)
    have HB0 : Hid (Below w.heap.size w (w1)) := Lib.hid (on (below_alloc (below_alloc (Below.refl _ _) _) _) hb1)
    have hg0 : w.heap.size + 1 < w1.heap.size := blk_lt RK0.out
    clear hb1
    have hg1 : w.heap.size < w1.heap.size := by omega
    have e0 := blk_cell ST0.out 0
    have e1 := blk_cell ST0.out 1
    have e2 := blk_cell ST0.out 2
    have e3 := blk_cell ST0.out 3
    go_wp2_with fail
    have hc := fitsC 2 mode 0 0 0 true true true (w1.alloc (.cells #[.int .i64 2, .bool true, .bool true, .func (.func 36) #[] #[], .func (.func 37) #[] #[]] 48)) HF.out
    rw [shV_eq, show fa true = 36 from rfl, show fb true = 37 from rfl] at hc
    unfold stV at hc
    refine hc.mono ?_
    clear hc
    rintro e w2 ⟨rfl, hb2⟩
    clear e0 e1 e2 e3
    have ST1 : Hid ((w2).heap[w.heap.size]? = some (.cells #[.int .i64 mode, .int .i64 0, .int .u32 0, .int .i32 0] 24 (0, 0))) := Lib.hid (blk_below (blk_alloc ST0.out _) hb2)
    have RK1 : Hid ((w2).heap[w.heap.size + 1]? = some (.cells #[.int .i64 0, .string ⟨#[]⟩, .int .i64 0, .int .i64 0, .int .u32 0, .int .i32 0] 27 (0, 0))) := Lib.hid (blk_below (blk_alloc RK0.out _) hb2)
    have SK1 : Hid ((w2).heap[w1.heap.size]? = some (.cells #[.int .i64 2, .bool true, .bool true, .func (.func 36) #[] #[], .func (.func 37) #[] #[]] 48 (0, 0))) := Lib.hid (blk_below (heap_alloc_new _ _) hb2)
    have HB1 : Hid (Below w.heap.size w (w2)) := Lib.hid (on (below_alloc HB0.out _) hb2)
    clear hb2 ST0 RK0 HB0
    have hg2 : w1.heap.size < w2.heap.size := blk_lt SK1.out
    have s0 := blk_cell SK1.out 0
    have s1 := blk_cell SK1.out 1
    have s2 := blk_cell SK1.out 2
    have s3 := blk_cell SK1.out 3
    have s4 := blk_cell SK1.out 4
    go_wp2_with fail
    refine (scalarC u _).mono ?_
    rintro e w3 ⟨rfl, hd3⟩
    rw [HS.out]
    clear s0 s1 s2 s3 s4
    have hb3 := hd3.below
    have ST2 : Hid ((w3).heap[w.heap.size]? = some (.cells #[.int .i64 mode, .int .i64 0, .int .u32 0, .int .i32 0] 24 (0, 0))) := Lib.hid (blk_below ST1.out hb3)
    have RK2 : Hid ((w3).heap[w.heap.size + 1]? = some (.cells #[.int .i64 0, .string ⟨#[]⟩, .int .i64 0, .int .i64 0, .int .u32 0, .int .i32 0] 27 (0, 0))) := Lib.hid (blk_below RK1.out hb3)
    have SK2 : Hid ((w3).heap[w1.heap.size]? = some (.cells #[.int .i64 2, .bool true, .bool true, .func (.func 36) #[] #[], .func (.func 37) #[] #[]] 48 (0, 0))) := Lib.hid (blk_below SK1.out hb3)
    have HB2 : Hid (Below w.heap.size w (w3)) := Lib.hid (on HB1.out hb3)
    clear hb3 hd3 ST1 RK1 SK1 HB1
    have hg5 : w1.heap.size < w3.heap.size := blk_lt SK2.out
    have hg6 : w.heap.size + 1 < w3.heap.size := by omega
    have hg7 : w.heap.size < w3.heap.size := by omega
    have e0 := blk_cell ST2.out 0
    have e1 := blk_cell ST2.out 1
    have e2 := blk_cell ST2.out 2
    have e3 := blk_cell ST2.out 3
    have s0 := blk_cell SK2.out 0
    have s1 := blk_cell SK2.out 1
    have s2 := blk_cell SK2.out 2
    have s3 := blk_cell SK2.out 3
    have s4 := blk_cell SK2.out 4
    go_wp2_with fail
    refine (HSP.out _).mono ?_
    rintro e w4 ⟨rfl, hd4⟩
    have hb4 := hd4.below
    have ST3 : Hid ((w4).heap[w.heap.size]? = some (.cells #[.int .i64 mode, .int .i64 0, .int .u32 0, .int .i32 0] 24 (0, 0))) := Lib.hid (blk_below ST2.out hb4)
    have RK3 : Hid ((w4).heap[w.heap.size + 1]? = some (.cells #[.int .i64 0, .string ⟨#[]⟩, .int .i64 0, .int .i64 0, .int .u32 0, .int .i32 0] 27 (0, 0))) := Lib.hid (blk_below RK2.out hb4)
    have SK3 : Hid ((w4).heap[w1.heap.size]? = some (.cells #[.int .i64 2, .bool true, .bool true, .func (.func 36) #[] #[], .func (.func 37) #[] #[]] 48 (0, 0))) := Lib.hid (blk_below SK2.out hb4)
    have HB3 : Hid (Below w.heap.size w (w4)) := Lib.hid (on HB2.out hb4)
    clear e0 e1 e2 e3
    clear s0 s1 s2 s3 s4
    clear hb4 hd4 ST2 RK2 SK2 HB2
    have hg8 : w1.heap.size < w4.heap.size := blk_lt SK3.out
    have hg9 : w.heap.size + 1 < w4.heap.size := by omega
    have s0 := blk_cell SK3.out 0
    have s1 := blk_cell SK3.out 1
    have s2 := blk_cell SK3.out 2
    have s3 := blk_cell SK3.out 3
    have s4 := blk_cell SK3.out 4
    go_wp2_with fail
    refine (HBY.out _).mono ?_
    rintro e w5 ⟨v5, rfl, hown5, hb5⟩
    clear s0 s1 s2 s3 s4
    obtain ⟨A5, c5, rfl, hr5⟩ := own_reads hown5
    have ST4 : Hid ((w5).heap[w.heap.size]? = some (.cells #[.int .i64 mode, .int .i64 0, .int .u32 0, .int .i32 0] 24 (0, 0))) := Lib.hid (blk_below ST3.out hb5)
    have RK4 : Hid ((w5).heap[w.heap.size + 1]? = some (.cells #[.int .i64 0, .string ⟨#[]⟩, .int .i64 0, .int .i64 0, .int .u32 0, .int .i32 0] 27 (0, 0))) := Lib.hid (blk_below RK3.out hb5)
    have HB4 : Hid (Below w.heap.size w (w5)) := Lib.hid (on HB3.out hb5)
    have HR5 := Lib.hid hr5
    have hz5 : w4.heap.size ≤ w5.heap.size := hb5.size
    clear hr5 hown5 hb5 ST3 RK3 SK3
    go_upto_region 16 with (at_builtin; refine print_append_row w4.heap.size rfl (.tmp 90) (.tmp 98) 30 5 .u8 1 rfl Try.underlying30 info5 (by omega) (.slice none 0 0) [] l A5 l.length c5 rfl rfl (own_nil _ _ _ _) HR5.out (Below.refl w4.heap.size w5) hz5 (by simp; omega) ?_; intro v8 w8 hown8 hb8 hg8' hat8; clear hg8' hat8; have HO8 : Hid (w8.ownsRow w4.heap.size 5 1 v8 l.length (nums .u8 l)) := hown8; have HX8 := Lib.hid hb8; clear hown8 hb8)
    have ST5 : Hid ((w8).heap[w.heap.size]? = some (.cells #[.int .i64 mode, .int .i64 0, .int .u32 0, .int .i32 0] 24 (0, 0))) := Lib.hid (blk_b ST4.out HX8.out (by omega))
    have RK5 : Hid ((w8).heap[w.heap.size + 1]? = some (.cells #[.int .i64 0, .string ⟨#[]⟩, .int .i64 0, .int .i64 0, .int .u32 0, .int .i32 0] 27 (0, 0))) := Lib.hid (blk_b RK4.out HX8.out (by omega))
    have HB5 : Hid (Below w.heap.size w (w8)) := Lib.hid (below_b HB4.out HB3.out.size HX8.out)
    clear ST4 RK4 HB4 HX8 HB3
    obtain ⟨A8, c8, rfl, hr8⟩ := own_reads HO8.out
    have hcv : (convert 30 9 (.slice A8 l.length c8)).run Try.prog w8 = .ok (.string (strOfNums l)) w8 := Kd.C_string (P := Try.prog) Try.underlying30 Try.underlying5 Try.underlying9 (Kd.C_of_reads (d := (0 : Int)) hr8)
    clear hr8
    obtain ⟨S8, hS8⟩ : ∃ S, S = strOfNums l := ⟨_, rfl⟩
    rw [← hS8] at hcv
    have HS8 := Lib.hid hS8
    clear hS8
    have e0 := blk_cell ST5.out 0
    have e1 := blk_cell ST5.out 1
    have e2 := blk_cell ST5.out 2
    have e3 := blk_cell ST5.out 3
    have r0 := blk_cell RK5.out 0
    have r1 := blk_cell RK5.out 1
    have r2 := blk_cell RK5.out 2
    have r3 := blk_cell RK5.out 3
    have r4 := blk_cell RK5.out 4
    have r5 := blk_cell RK5.out 5
    have q0 := blk_frozen RK5.out 0
    have q1 := blk_frozen RK5.out 1
    have q2 := blk_frozen RK5.out 2
    have q3 := blk_frozen RK5.out 3
    have q4 := blk_frozen RK5.out 4
    have q5 := blk_frozen RK5.out 5
    go_wp2_with fail
    refine bodyPost_ret (results_cell_row rfl _ _ (w.heap.size + 1) 27 _ (0, 0) _ rfl (put6 RK5.out _ _ _ _ _ _) Try.underlying27 rfl (by kernel_rfl)) rfl ?_
    exact ⟨by rw [← HS8.out]; rfl, below6 HB5.out (Nat.le_succ _) _ _ _ _ _ _⟩
  · skip
    unfold stV
    go_enter Try.func9, Try.ntmps9
    go_wp2_with fail
    refine (shapeC _ HK.out).mono ?_
    rintro e w1 ⟨rfl, hb1⟩
    rw [shV_eq, show fa true = 36 from rfl, show fb true = 37 from rfl]
    have ST0 : Hid ((w1).heap[w.heap.size]? = some (.cells #[.int .i64 mode, .int .i64 0, .int .u32 0, .int .i32 0] 24 (0, 0))) := Lib.hid (blk_below (blk_alloc (heap_alloc_new _ _) _) hb1)
    have RK0 : Hid ((w1).heap[w.heap.size + 1]? = some (.cells #[.int .i64 0, .string ⟨#[]⟩, .int .i64 0, .int .i64 0, .int .u32 0, .int .i32 0] 27 (0, 0))) := Lib.hid (blk_below (blk_second _ _ _) hb1)
    have HB0 : Hid (Below w.heap.size w (w1)) := Lib.hid (on (below_alloc (below_alloc (Below.refl _ _) _) _) hb1)
    have hg0 : w.heap.size + 1 < w1.heap.size := blk_lt RK0.out
    clear hb1
    have hg1 : w.heap.size < w1.heap.size := by omega
    have e0 := blk_cell ST0.out 0
    have e1 := blk_cell ST0.out 1
    have e2 := blk_cell ST0.out 2
    have e3 := blk_cell ST0.out 3
    go_wp2_with fail
    have hc := fitsC 2 mode 0 0 0 false true true (w1.alloc (.cells #[.int .i64 2, .bool false, .bool true, .func (.func 36) #[] #[], .func (.func 37) #[] #[]] 48)) HF.out
    rw [shV_eq, show fa true = 36 from rfl, show fb true = 37 from rfl] at hc
    unfold stV at hc
    refine hc.mono ?_
    clear hc
    rintro e w2 ⟨rfl, hb2⟩
    clear e0 e1 e2 e3
    have ST1 : Hid ((w2).heap[w.heap.size]? = some (.cells #[.int .i64 mode, .int .i64 0, .int .u32 0, .int .i32 0] 24 (0, 0))) := Lib.hid (blk_below (blk_alloc ST0.out _) hb2)
    have RK1 : Hid ((w2).heap[w.heap.size + 1]? = some (.cells #[.int .i64 0, .string ⟨#[]⟩, .int .i64 0, .int .i64 0, .int .u32 0, .int .i32 0] 27 (0, 0))) := Lib.hid (blk_below (blk_alloc RK0.out _) hb2)
    have SK1 : Hid ((w2).heap[w1.heap.size]? = some (.cells #[.int .i64 2, .bool false, .bool true, .func (.func 36) #[] #[], .func (.func 37) #[] #[]] 48 (0, 0))) := Lib.hid (blk_below (heap_alloc_new _ _) hb2)
    have HB1 : Hid (Below w.heap.size w (w2)) := Lib.hid (on (below_alloc HB0.out _) hb2)
    clear hb2 ST0 RK0 HB0
    have hg2 : w1.heap.size < w2.heap.size := blk_lt SK1.out
    have s0 := blk_cell SK1.out 0
    have s1 := blk_cell SK1.out 1
    have s2 := blk_cell SK1.out 2
    have s3 := blk_cell SK1.out 3
    have s4 := blk_cell SK1.out 4
    go_wp2_with fail
    refine (scalarC u _).mono ?_
    rintro e w3 ⟨rfl, hd3⟩
    rw [HS.out]
    clear s0 s1 s2 s3 s4
    have hb3 := hd3.below
    have ST2 : Hid ((w3).heap[w.heap.size]? = some (.cells #[.int .i64 mode, .int .i64 0, .int .u32 0, .int .i32 0] 24 (0, 0))) := Lib.hid (blk_below ST1.out hb3)
    have RK2 : Hid ((w3).heap[w.heap.size + 1]? = some (.cells #[.int .i64 0, .string ⟨#[]⟩, .int .i64 0, .int .i64 0, .int .u32 0, .int .i32 0] 27 (0, 0))) := Lib.hid (blk_below RK1.out hb3)
    have SK2 : Hid ((w3).heap[w1.heap.size]? = some (.cells #[.int .i64 2, .bool false, .bool true, .func (.func 36) #[] #[], .func (.func 37) #[] #[]] 48 (0, 0))) := Lib.hid (blk_below SK1.out hb3)
    have HB2 : Hid (Below w.heap.size w (w3)) := Lib.hid (on HB1.out hb3)
    clear hb3 hd3 ST1 RK1 SK1 HB1
    have hg5 : w1.heap.size < w3.heap.size := blk_lt SK2.out
    have hg6 : w.heap.size + 1 < w3.heap.size := by omega
    have hg7 : w.heap.size < w3.heap.size := by omega
    have e0 := blk_cell ST2.out 0
    have e1 := blk_cell ST2.out 1
    have e2 := blk_cell ST2.out 2
    have e3 := blk_cell ST2.out 3
    have s0 := blk_cell SK2.out 0
    have s1 := blk_cell SK2.out 1
    have s2 := blk_cell SK2.out 2
    have s3 := blk_cell SK2.out 3
    have s4 := blk_cell SK2.out 4
    go_wp2_with fail
    refine (HSP.out _).mono ?_
    rintro e w4 ⟨rfl, hd4⟩
    have hb4 := hd4.below
    have ST3 : Hid ((w4).heap[w.heap.size]? = some (.cells #[.int .i64 mode, .int .i64 0, .int .u32 0, .int .i32 0] 24 (0, 0))) := Lib.hid (blk_below ST2.out hb4)
    have RK3 : Hid ((w4).heap[w.heap.size + 1]? = some (.cells #[.int .i64 0, .string ⟨#[]⟩, .int .i64 0, .int .i64 0, .int .u32 0, .int .i32 0] 27 (0, 0))) := Lib.hid (blk_below RK2.out hb4)
    have SK3 : Hid ((w4).heap[w1.heap.size]? = some (.cells #[.int .i64 2, .bool false, .bool true, .func (.func 36) #[] #[], .func (.func 37) #[] #[]] 48 (0, 0))) := Lib.hid (blk_below SK2.out hb4)
    have HB3 : Hid (Below w.heap.size w (w4)) := Lib.hid (on HB2.out hb4)
    clear e0 e1 e2 e3
    clear s0 s1 s2 s3 s4
    clear hb4 hd4 ST2 RK2 SK2 HB2
    have hg8 : w1.heap.size < w4.heap.size := blk_lt SK3.out
    have hg9 : w.heap.size + 1 < w4.heap.size := by omega
    have s0 := blk_cell SK3.out 0
    have s1 := blk_cell SK3.out 1
    have s2 := blk_cell SK3.out 2
    have s3 := blk_cell SK3.out 3
    have s4 := blk_cell SK3.out 4
    go_wp2_with fail
    refine (HBY.out _).mono ?_
    rintro e w5 ⟨v5, rfl, hown5, hb5⟩
    clear s0 s1 s2 s3 s4
    obtain ⟨A5, c5, rfl, hr5⟩ := own_reads hown5
    have ST4 : Hid ((w5).heap[w.heap.size]? = some (.cells #[.int .i64 mode, .int .i64 0, .int .u32 0, .int .i32 0] 24 (0, 0))) := Lib.hid (blk_below ST3.out hb5)
    have RK4 : Hid ((w5).heap[w.heap.size + 1]? = some (.cells #[.int .i64 0, .string ⟨#[]⟩, .int .i64 0, .int .i64 0, .int .u32 0, .int .i32 0] 27 (0, 0))) := Lib.hid (blk_below RK3.out hb5)
    have HB4 : Hid (Below w.heap.size w (w5)) := Lib.hid (on HB3.out hb5)
    have HR5 := Lib.hid hr5
    have hz5 : w4.heap.size ≤ w5.heap.size := hb5.size
    clear hr5 hown5 hb5 ST3 RK3 SK3
    go_upto_region 16 with (at_builtin; refine print_append_row w4.heap.size rfl (.tmp 90) (.tmp 98) 30 5 .u8 1 rfl Try.underlying30 info5 (by omega) (.slice none 0 0) [] l A5 l.length c5 rfl rfl (own_nil _ _ _ _) HR5.out (Below.refl w4.heap.size w5) hz5 (by simp; omega) ?_; intro v8 w8 hown8 hb8 hg8' hat8; clear hg8' hat8; have HO8 : Hid (w8.ownsRow w4.heap.size 5 1 v8 l.length (nums .u8 l)) := hown8; have HX8 := Lib.hid hb8; clear hown8 hb8)
    have ST5 : Hid ((w8).heap[w.heap.size]? = some (.cells #[.int .i64 mode, .int .i64 0, .int .u32 0, .int .i32 0] 24 (0, 0))) := Lib.hid (blk_b ST4.out HX8.out (by omega))
    have RK5 : Hid ((w8).heap[w.heap.size + 1]? = some (.cells #[.int .i64 0, .string ⟨#[]⟩, .int .i64 0, .int .i64 0, .int .u32 0, .int .i32 0] 27 (0, 0))) := Lib.hid (blk_b RK4.out HX8.out (by omega))
    have HB5 : Hid (Below w.heap.size w (w8)) := Lib.hid (below_b HB4.out HB3.out.size HX8.out)
    clear ST4 RK4 HB4 HX8 HB3
    obtain ⟨A8, c8, rfl, hr8⟩ := own_reads HO8.out
    have hcv : (convert 30 9 (.slice A8 l.length c8)).run Try.prog w8 = .ok (.string (strOfNums l)) w8 := Kd.C_string (P := Try.prog) Try.underlying30 Try.underlying5 Try.underlying9 (Kd.C_of_reads (d := (0 : Int)) hr8)
    clear hr8
    obtain ⟨S8, hS8⟩ : ∃ S, S = strOfNums l := ⟨_, rfl⟩
    rw [← hS8] at hcv
    have HS8 := Lib.hid hS8
    clear hS8
    have e0 := blk_cell ST5.out 0
    have e1 := blk_cell ST5.out 1
    have e2 := blk_cell ST5.out 2
    have e3 := blk_cell ST5.out 3
    have r0 := blk_cell RK5.out 0
    have r1 := blk_cell RK5.out 1
    have r2 := blk_cell RK5.out 2
    have r3 := blk_cell RK5.out 3
    have r4 := blk_cell RK5.out 4
    have r5 := blk_cell RK5.out 5
    have q0 := blk_frozen RK5.out 0
    have q1 := blk_frozen RK5.out 1
    have q2 := blk_frozen RK5.out 2
    have q3 := blk_frozen RK5.out 3
    have q4 := blk_frozen RK5.out 4
    have q5 := blk_frozen RK5.out 5
    go_wp2_with fail
    refine bodyPost_ret (results_cell_row rfl _ _ (w.heap.size + 1) 27 _ (0, 0) _ rfl (put6 RK5.out _ _ _ _ _ _) Try.underlying27 rfl (by kernel_rfl)) rfl ?_
    exact ⟨by rw [← HS8.out]; rfl, below6 HB5.out (Nat.le_succ _) _ _ _ _ _ _⟩
end Go.Proofs.Ytflmpdfcbdfabaa.Wd
