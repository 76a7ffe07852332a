/- The document's own first step on encodings of two and of four bytes, walked; and whole. No condition. -/
import Derived.Test.YtflmpdfcbdfabaaWt
import Derived.Test.YtflmpdfcbdfabaaWk
namespace Go.Proofs.Ytflmpdfcbdfabaa.Wd
open Go.RowKit Go.Proofs.YtflmpdfcbdfabaaW.PrintWords Go.Proofs.YtflmpdfcbdfabaaW.PrintLast Go.Proofs.YtflmpdfcbdfabaaW.PrintMore
set_option linter.unusedVariables false
set_option maxHeartbeats 2000000 in
set_option maxRecDepth 100000 in
theorem rget_kind (kind mode bits acc held : Int) (A : Option Addr) (c : Nat) (l : List Int) (w : World) (hk : shp kind mode = none) :
    Calls Try.prog 12 #[.int .i64 kind, stV mode bits acc held, .slice A l.length c] w fun en w' => en = .returned (gotV 5 0 0 0 0) ∧ Below w.heap.size w w' := by
  unfold stV
  have HK := Lib.hid hk
  clear hk
  go_enter Try.func12, Try.ntmps12
  go_wp2_with fail
  refine (rhasC_not _ HK.out).mono ?_
  rintro e w1 ⟨rfl, hd⟩
  have hb := hd.below
  have ST1 : Hid ((w1).heap[w.heap.size]? = some (.cells #[.int .i64 mode, .int .i64 bits, .int .u32 acc, .int .i32 held] 24 (0, 0))) := Lib.hid (blk_below (blk_alloc (heap_alloc_new _ _) _) hb)
  have RK1 : Hid ((w1).heap[w.heap.size + 1]? = some (.cells #[.int .i64 0, .int .i64 0, .int .i64 0, .int .i32 0, .int .i32 0, .int .i64 0, .int .i64 0, .int .u32 0, .int .i32 0] 32 (0, 0))) := Lib.hid (blk_below (blk_second _ _ _) hb)
  have HB1 : Hid (Below w.heap.size w (w1)) := Lib.hid (on (below_alloc (below_alloc (Below.refl _ _) _) _) hb)
  clear hb hd
  have hz1 : w.heap.size + 1 < w1.heap.size := blk_lt RK1.out
  have hy1 : w.heap.size < w1.heap.size := by omega
  have r0 := blk_cell RK1.out 0
  have r1 := blk_cell RK1.out 1
  have r2 := blk_cell RK1.out 2
  have r3 := blk_cell RK1.out 3
  have r4 := blk_cell RK1.out 4
  have r5 := blk_cell RK1.out 5
  have r6 := blk_cell RK1.out 6
  have r7 := blk_cell RK1.out 7
  have r8 := blk_cell RK1.out 8
  have q0 := blk_frozen RK1.out 0
  have q1 := blk_frozen RK1.out 1
  have q2 := blk_frozen RK1.out 2
  have q3 := blk_frozen RK1.out 3
  have q4 := blk_frozen RK1.out 4
  have q5 := blk_frozen RK1.out 5
  have q6 := blk_frozen RK1.out 6
  have q7 := blk_frozen RK1.out 7
  have q8 := blk_frozen RK1.out 8
  go_wp2_with fail
  refine bodyPost_ret (results_cell_row rfl _ _ (w.heap.size + 1) 32 _ (0, 0) _ rfl (put9 RK1.out _ _ _ _ _ _ _ _ _) Try.underlying32 rfl (by kernel_rfl)) rfl ?_
  exact ⟨rfl, below9 HB1.out (Nat.le_succ _) _ _ _ _ _ _ _ _ _⟩
set_option maxHeartbeats 2000000 in
set_option maxRecDepth 100000 in
theorem rget_state (kind mode bits acc held n : Int) (pairs marks low : Bool) (A : Option Addr) (c : Nat) (l : List Int) (w : World) (hk : shp kind mode = some (n, pairs, marks, low)) (hf : ¬ Fit marks mode bits acc held) :
    Calls Try.prog 12 #[.int .i64 kind, stV mode bits acc held, .slice A l.length c] w fun en w' => en = .returned (gotV 7 0 0 0 0) ∧ Below w.heap.size w w' := by
  have HFI : Hid (∀ W, Calls Try.prog 21 #[.int .i64 kind, .agg #[.int .i64 mode, .int .i64 bits, .int .u32 acc, .int .i32 held]] W fun e w' => e = .returned (.bool (decide (Fit marks mode bits acc held))) ∧ Below W.heap.size W w') := Lib.hid (fun W => rfitsC bits acc held W hk)
  unfold stV
  have HK := Lib.hid hk
  have HF := Lib.hid hf
  clear hk hf
  go_enter Try.func12, Try.ntmps12
  go_wp2_with fail
  refine (rhasC _ HK.out).mono ?_
  rintro e w1 ⟨rfl, hd⟩
  have hb := hd.below
  have ST1 : Hid ((w1).heap[w.heap.size]? = some (.cells #[.int .i64 mode, .int .i64 bits, .int .u32 acc, .int .i32 held] 24 (0, 0))) := Lib.hid (blk_below (blk_alloc (heap_alloc_new _ _) _) hb)
  have RK1 : Hid ((w1).heap[w.heap.size + 1]? = some (.cells #[.int .i64 0, .int .i64 0, .int .i64 0, .int .i32 0, .int .i32 0, .int .i64 0, .int .i64 0, .int .u32 0, .int .i32 0] 32 (0, 0))) := Lib.hid (blk_below (blk_second _ _ _) hb)
  have HB1 : Hid (Below w.heap.size w (w1)) := Lib.hid (on (below_alloc (below_alloc (Below.refl _ _) _) _) hb)
  clear hb hd
  have hz1 : w.heap.size + 1 < w1.heap.size := blk_lt RK1.out
  have hy1 : w.heap.size < w1.heap.size := by omega
  have e0 := blk_cell ST1.out 0
  have e1 := blk_cell ST1.out 1
  have e2 := blk_cell ST1.out 2
  have e3 := blk_cell ST1.out 3
  go_wp2_with fail
  refine (HFI.out _).mono ?_
  rintro e w2 ⟨rfl, hb⟩
  have ST2 : Hid ((w2).heap[w.heap.size]? = some (.cells #[.int .i64 mode, .int .i64 bits, .int .u32 acc, .int .i32 held] 24 (0, 0))) := Lib.hid (blk_below ST1.out hb)
  have RK2 : Hid ((w2).heap[w.heap.size + 1]? = some (.cells #[.int .i64 0, .int .i64 0, .int .i64 0, .int .i32 0, .int .i32 0, .int .i64 0, .int .i64 0, .int .u32 0, .int .i32 0] 32 (0, 0))) := Lib.hid (blk_below RK1.out hb)
  have HB2 : Hid (Below w.heap.size w (w2)) := Lib.hid (on HB1.out hb)
  clear hb ST1 RK1 HB1
  have hz2 : w.heap.size + 1 < w2.heap.size := blk_lt RK2.out
  have hy2 : w.heap.size < w2.heap.size := by omega
  rw [decide_eq_false HF.out]
  clear e0 e1 e2 e3
  have r0 := blk_cell RK2.out 0
  have r1 := blk_cell RK2.out 1
  have r2 := blk_cell RK2.out 2
  have r3 := blk_cell RK2.out 3
  have r4 := blk_cell RK2.out 4
  have r5 := blk_cell RK2.out 5
  have r6 := blk_cell RK2.out 6
  have r7 := blk_cell RK2.out 7
  have r8 := blk_cell RK2.out 8
  have q0 := blk_frozen RK2.out 0
  have q1 := blk_frozen RK2.out 1
  have q2 := blk_frozen RK2.out 2
  have q3 := blk_frozen RK2.out 3
  have q4 := blk_frozen RK2.out 4
  have q5 := blk_frozen RK2.out 5
  have q6 := blk_frozen RK2.out 6
  have q7 := blk_frozen RK2.out 7
  have q8 := blk_frozen RK2.out 8
  go_wp2_with fail
  refine bodyPost_ret (results_cell_row rfl _ _ (w.heap.size + 1) 32 _ (0, 0) _ rfl (put9 RK2.out _ _ _ _ _ _ _ _ _) Try.underlying32 rfl (by kernel_rfl)) rfl ?_
  exact ⟨rfl, below9 HB2.out (Nat.le_succ _) _ _ _ _ _ _ _ _ _⟩
set_option maxHeartbeats 2000000 in
set_option maxRecDepth 100000 in
theorem rget_few (kind n : Int) (pairs low : Bool) (A : Option Addr) (c : Nat) (l : List Int) (w : World) (hk : shp kind 0 = some (n, pairs, true, low)) (hf : Fit true 0 0 0 0) (hl : (l.length : Int) < n) :
    Calls Try.prog 12 #[.int .i64 kind, stV 0 0 0 0, .slice A l.length c] w fun en w' => en = .returned (gotV 1 0 0 0 0) ∧ Below w.heap.size w w' := by
  have HFI : Hid (∀ W, Calls Try.prog 21 #[.int .i64 kind, .agg #[.int .i64 0, .int .i64 0, .int .u32 0, .int .i32 0]] W fun e w' => e = .returned (.bool (decide (Fit true 0 0 0 0))) ∧ Below W.heap.size W w') := Lib.hid (fun W => rfitsC 0 0 0 W hk)
  unfold stV
  have HK := Lib.hid hk
  have HF := Lib.hid hf
  clear hk hf
  go_enter Try.func12, Try.ntmps12
  go_wp2_with fail
  refine (rhasC _ HK.out).mono ?_
  rintro e w1 ⟨rfl, hd⟩
  have hb := hd.below
  have ST1 : Hid ((w1).heap[w.heap.size]? = some (.cells #[.int .i64 0, .int .i64 0, .int .u32 0, .int .i32 0] 24 (0, 0))) := Lib.hid (blk_below (blk_alloc (heap_alloc_new _ _) _) hb)
  have RK1 : Hid ((w1).heap[w.heap.size + 1]? = some (.cells #[.int .i64 0, .int .i64 0, .int .i64 0, .int .i32 0, .int .i32 0, .int .i64 0, .int .i64 0, .int .u32 0, .int .i32 0] 32 (0, 0))) := Lib.hid (blk_below (blk_second _ _ _) hb)
  have HB1 : Hid (Below w.heap.size w (w1)) := Lib.hid (on (below_alloc (below_alloc (Below.refl _ _) _) _) hb)
  clear hb hd
  have hz1 : w.heap.size + 1 < w1.heap.size := blk_lt RK1.out
  have hy1 : w.heap.size < w1.heap.size := by omega
  have e0 := blk_cell ST1.out 0
  have e1 := blk_cell ST1.out 1
  have e2 := blk_cell ST1.out 2
  have e3 := blk_cell ST1.out 3
  go_wp2_with fail
  refine (HFI.out _).mono ?_
  rintro e w2 ⟨rfl, hb⟩
  have ST2 : Hid ((w2).heap[w.heap.size]? = some (.cells #[.int .i64 0, .int .i64 0, .int .u32 0, .int .i32 0] 24 (0, 0))) := Lib.hid (blk_below ST1.out hb)
  have RK2 : Hid ((w2).heap[w.heap.size + 1]? = some (.cells #[.int .i64 0, .int .i64 0, .int .i64 0, .int .i32 0, .int .i32 0, .int .i64 0, .int .i64 0, .int .u32 0, .int .i32 0] 32 (0, 0))) := Lib.hid (blk_below RK1.out hb)
  have HB2 : Hid (Below w.heap.size w (w2)) := Lib.hid (on HB1.out hb)
  clear hb ST1 RK1 HB1
  have hz2 : w.heap.size + 1 < w2.heap.size := blk_lt RK2.out
  have hy2 : w.heap.size < w2.heap.size := by omega
  rw [decide_eq_true HF.out]
  clear e0 e1 e2 e3
  have e0 := blk_cell ST2.out 0
  have e1 := blk_cell ST2.out 1
  have e2 := blk_cell ST2.out 2
  have e3 := blk_cell ST2.out 3
  go_wp2_with fail
  refine (rmarkedC _ HK.out).mono ?_
  rintro e w3 ⟨rfl, hd⟩
  have hb := hd.below
  have ST3 : Hid ((w3).heap[w.heap.size]? = some (.cells #[.int .i64 0, .int .i64 0, .int .u32 0, .int .i32 0] 24 (0, 0))) := Lib.hid (blk_below ST2.out hb)
  have RK3 : Hid ((w3).heap[w.heap.size + 1]? = some (.cells #[.int .i64 0, .int .i64 0, .int .i64 0, .int .i32 0, .int .i32 0, .int .i64 0, .int .i64 0, .int .u32 0, .int .i32 0] 32 (0, 0))) := Lib.hid (blk_below RK2.out hb)
  have HB3 : Hid (Below w.heap.size w (w3)) := Lib.hid (on HB2.out hb)
  clear hb hd ST2 RK2 HB2
  have hz3 : w.heap.size + 1 < w3.heap.size := blk_lt RK3.out
  have hy3 : w.heap.size < w3.heap.size := by omega
  clear e0 e1 e2 e3
  have e0 := blk_cell ST3.out 0
  have e1 := blk_cell ST3.out 1
  have e2 := blk_cell ST3.out 2
  have e3 := blk_cell ST3.out 3
  go_wp2_with fail
  refine (rsizeC _ HK.out).mono ?_
  rintro e w4 ⟨rfl, hd⟩
  have hb := hd.below
  have ST4 : Hid ((w4).heap[w.heap.size]? = some (.cells #[.int .i64 0, .int .i64 0, .int .u32 0, .int .i32 0] 24 (0, 0))) := Lib.hid (blk_below ST3.out hb)
  have RK4 : Hid ((w4).heap[w.heap.size + 1]? = some (.cells #[.int .i64 0, .int .i64 0, .int .i64 0, .int .i32 0, .int .i32 0, .int .i64 0, .int .i64 0, .int .u32 0, .int .i32 0] 32 (0, 0))) := Lib.hid (blk_below RK3.out hb)
  have HB4 : Hid (Below w.heap.size w (w4)) := Lib.hid (on HB3.out hb)
  clear hb hd ST3 RK3 HB3
  have hz4 : w.heap.size + 1 < w4.heap.size := blk_lt RK4.out
  have hy4 : w.heap.size < w4.heap.size := by omega
  clear e0 e1 e2 e3
  have r0 := blk_cell RK4.out 0
  have r1 := blk_cell RK4.out 1
  have r2 := blk_cell RK4.out 2
  have r3 := blk_cell RK4.out 3
  have r4 := blk_cell RK4.out 4
  have r5 := blk_cell RK4.out 5
  have r6 := blk_cell RK4.out 6
  have r7 := blk_cell RK4.out 7
  have r8 := blk_cell RK4.out 8
  have q0 := blk_frozen RK4.out 0
  have q1 := blk_frozen RK4.out 1
  have q2 := blk_frozen RK4.out 2
  have q3 := blk_frozen RK4.out 3
  have q4 := blk_frozen RK4.out 4
  have q5 := blk_frozen RK4.out 5
  have q6 := blk_frozen RK4.out 6
  have q7 := blk_frozen RK4.out 7
  have q8 := blk_frozen RK4.out 8
  go_wp2_with fail
  refine bodyPost_ret (results_cell_row rfl _ _ (w.heap.size + 1) 32 _ (0, 0) _ rfl (put9 RK4.out _ _ _ _ _ _ _ _ _) Try.underlying32 rfl (by kernel_rfl)) rfl ?_
  exact ⟨rfl, below9 HB4.out (Nat.le_succ _) _ _ _ _ _ _ _ _ _⟩
set_option maxHeartbeats 2000000 in
set_option maxRecDepth 100000 in
theorem rget_markB (kind n : Int) (pairs low : Bool) (A : Option Addr) (c : Nat) (l : List Int) (w : World) (hk : shp kind 0 = some (n, pairs, true, low)) (hf : Fit true 0 0 0 0) (hC : Kd.C (Kd.int .u8) w A l.length l) (hc : l.length ≤ c) (hb : ∀ x ∈ l, Byte x) (hl : n ≤ l.length) (hx : num false (l.take n.toNat) = 65279) :
    Calls Try.prog 12 #[.int .i64 kind, stV 0 0 0 0, .slice A l.length c] w fun en w' => en = .returned (gotV 0 n 0 0 1) ∧ Below w.heap.size w w' := by
  have HNB : Hid (∀ W, Below w.heap.size w W → Calls Try.prog 30 #[.slice A l.length c, .int .i64 n, .bool false] W fun e w' => e = .returned (.int .u32 (num false (l.take n.toNat))) ∧ Drawn0 W w') := Lib.hid (fun W hW => rnumC false A c l n W (Kd.C_below hC hW) hc hb (shp_ok hk).1 hl)
  have HNL : Hid (∀ W, Below w.heap.size w W → Calls Try.prog 30 #[.slice A l.length c, .int .i64 n, .bool true] W fun e w' => e = .returned (.int .u32 (num true (l.take n.toNat))) ∧ Drawn0 W w') := Lib.hid (fun W hW => rnumC true A c l n W (Kd.C_below hC hW) hc hb (shp_ok hk).1 hl)
  have hl' : ¬ (l.length : Int) < n := by omega
  rw [hx] at HNB
  clear hC hc hb hx HNL
  have HFI : Hid (∀ W, Calls Try.prog 21 #[.int .i64 kind, .agg #[.int .i64 0, .int .i64 0, .int .u32 0, .int .i32 0]] W fun e w' => e = .returned (.bool (decide (Fit true 0 0 0 0))) ∧ Below W.heap.size W w') := Lib.hid (fun W => rfitsC 0 0 0 W hk)
  unfold stV
  have HK := Lib.hid hk
  have HF := Lib.hid hf
  clear hk hf
  go_enter Try.func12, Try.ntmps12
  go_wp2_with fail
  refine (rhasC _ HK.out).mono ?_
  rintro e w1 ⟨rfl, hd⟩
  have hb := hd.below
  have ST1 : Hid ((w1).heap[w.heap.size]? = some (.cells #[.int .i64 0, .int .i64 0, .int .u32 0, .int .i32 0] 24 (0, 0))) := Lib.hid (blk_below (blk_alloc (heap_alloc_new _ _) _) hb)
  have RK1 : Hid ((w1).heap[w.heap.size + 1]? = some (.cells #[.int .i64 0, .int .i64 0, .int .i64 0, .int .i32 0, .int .i32 0, .int .i64 0, .int .i64 0, .int .u32 0, .int .i32 0] 32 (0, 0))) := Lib.hid (blk_below (blk_second _ _ _) hb)
  have HB1 : Hid (Below w.heap.size w (w1)) := Lib.hid (on (below_alloc (below_alloc (Below.refl _ _) _) _) hb)
  clear hb hd
  have hz1 : w.heap.size + 1 < w1.heap.size := blk_lt RK1.out
  have hy1 : w.heap.size < w1.heap.size := by omega
  have e0 := blk_cell ST1.out 0
  have e1 := blk_cell ST1.out 1
  have e2 := blk_cell ST1.out 2
  have e3 := blk_cell ST1.out 3
  go_wp2_with fail
  refine (HFI.out _).mono ?_
  rintro e w2 ⟨rfl, hb⟩
  have ST2 : Hid ((w2).heap[w.heap.size]? = some (.cells #[.int .i64 0, .int .i64 0, .int .u32 0, .int .i32 0] 24 (0, 0))) := Lib.hid (blk_below ST1.out hb)
  have RK2 : Hid ((w2).heap[w.heap.size + 1]? = some (.cells #[.int .i64 0, .int .i64 0, .int .i64 0, .int .i32 0, .int .i32 0, .int .i64 0, .int .i64 0, .int .u32 0, .int .i32 0] 32 (0, 0))) := Lib.hid (blk_below RK1.out hb)
  have HB2 : Hid (Below w.heap.size w (w2)) := Lib.hid (on HB1.out hb)
  clear hb ST1 RK1 HB1
  have hz2 : w.heap.size + 1 < w2.heap.size := blk_lt RK2.out
  have hy2 : w.heap.size < w2.heap.size := by omega
  rw [decide_eq_true HF.out]
  clear e0 e1 e2 e3
  have e0 := blk_cell ST2.out 0
  have e1 := blk_cell ST2.out 1
  have e2 := blk_cell ST2.out 2
  have e3 := blk_cell ST2.out 3
  go_wp2_with fail
  refine (rmarkedC _ HK.out).mono ?_
  rintro e w3 ⟨rfl, hd⟩
  have hb := hd.below
  have ST3 : Hid ((w3).heap[w.heap.size]? = some (.cells #[.int .i64 0, .int .i64 0, .int .u32 0, .int .i32 0] 24 (0, 0))) := Lib.hid (blk_below ST2.out hb)
  have RK3 : Hid ((w3).heap[w.heap.size + 1]? = some (.cells #[.int .i64 0, .int .i64 0, .int .i64 0, .int .i32 0, .int .i32 0, .int .i64 0, .int .i64 0, .int .u32 0, .int .i32 0] 32 (0, 0))) := Lib.hid (blk_below RK2.out hb)
  have HB3 : Hid (Below w.heap.size w (w3)) := Lib.hid (on HB2.out hb)
  clear hb hd ST2 RK2 HB2
  have hz3 : w.heap.size + 1 < w3.heap.size := blk_lt RK3.out
  have hy3 : w.heap.size < w3.heap.size := by omega
  clear e0 e1 e2 e3
  have e0 := blk_cell ST3.out 0
  have e1 := blk_cell ST3.out 1
  have e2 := blk_cell ST3.out 2
  have e3 := blk_cell ST3.out 3
  go_wp2_with fail
  refine (rsizeC _ HK.out).mono ?_
  rintro e w4 ⟨rfl, hd⟩
  have hb := hd.below
  have ST4 : Hid ((w4).heap[w.heap.size]? = some (.cells #[.int .i64 0, .int .i64 0, .int .u32 0, .int .i32 0] 24 (0, 0))) := Lib.hid (blk_below ST3.out hb)
  have RK4 : Hid ((w4).heap[w.heap.size + 1]? = some (.cells #[.int .i64 0, .int .i64 0, .int .i64 0, .int .i32 0, .int .i32 0, .int .i64 0, .int .i64 0, .int .u32 0, .int .i32 0] 32 (0, 0))) := Lib.hid (blk_below RK3.out hb)
  have HB4 : Hid (Below w.heap.size w (w4)) := Lib.hid (on HB3.out hb)
  clear hb hd ST3 RK3 HB3
  have hz4 : w.heap.size + 1 < w4.heap.size := blk_lt RK4.out
  have hy4 : w.heap.size < w4.heap.size := by omega
  clear e0 e1 e2 e3
  go_wp2_with fail
  refine (HNB.out _ HB4.out).mono ?_
  rintro e w5 ⟨rfl, hd⟩
  have hb := hd.below
  have ST5 : Hid ((w5).heap[w.heap.size]? = some (.cells #[.int .i64 0, .int .i64 0, .int .u32 0, .int .i32 0] 24 (0, 0))) := Lib.hid (blk_below ST4.out hb)
  have RK5 : Hid ((w5).heap[w.heap.size + 1]? = some (.cells #[.int .i64 0, .int .i64 0, .int .i64 0, .int .i32 0, .int .i32 0, .int .i64 0, .int .i64 0, .int .u32 0, .int .i32 0] 32 (0, 0))) := Lib.hid (blk_below RK4.out hb)
  have HB5 : Hid (Below w.heap.size w (w5)) := Lib.hid (on HB4.out hb)
  clear hb hd ST4 RK4 HB4
  have hz5 : w.heap.size + 1 < w5.heap.size := blk_lt RK5.out
  have hy5 : w.heap.size < w5.heap.size := by omega
  have r0 := blk_cell RK5.out 0
  have r1 := blk_cell RK5.out 1
  have r2 := blk_cell RK5.out 2
  have r3 := blk_cell RK5.out 3
  have r4 := blk_cell RK5.out 4
  have r5 := blk_cell RK5.out 5
  have r6 := blk_cell RK5.out 6
  have r7 := blk_cell RK5.out 7
  have r8 := blk_cell RK5.out 8
  have q0 := blk_frozen RK5.out 0
  have q1 := blk_frozen RK5.out 1
  have q2 := blk_frozen RK5.out 2
  have q3 := blk_frozen RK5.out 3
  have q4 := blk_frozen RK5.out 4
  have q5 := blk_frozen RK5.out 5
  have q6 := blk_frozen RK5.out 6
  have q7 := blk_frozen RK5.out 7
  have q8 := blk_frozen RK5.out 8
  go_wp2_with fail
  refine bodyPost_ret (results_cell_row rfl _ _ (w.heap.size + 1) 32 _ (0, 0) _ rfl (put9 RK5.out _ _ _ _ _ _ _ _ _) Try.underlying32 rfl (by kernel_rfl)) rfl ?_
  exact ⟨rfl, below9 HB5.out (Nat.le_succ _) _ _ _ _ _ _ _ _ _⟩
set_option maxHeartbeats 2000000 in
set_option maxRecDepth 100000 in
theorem rget_markL (kind n : Int) (pairs low : Bool) (A : Option Addr) (c : Nat) (l : List Int) (w : World) (hk : shp kind 0 = some (n, pairs, true, low)) (hf : Fit true 0 0 0 0) (hC : Kd.C (Kd.int .u8) w A l.length l) (hc : l.length ≤ c) (hb : ∀ x ∈ l, Byte x) (hl : n ≤ l.length) (hx : num false (l.take n.toNat) ≠ 65279) (hy : num true (l.take n.toNat) = 65279) :
    Calls Try.prog 12 #[.int .i64 kind, stV 0 0 0 0, .slice A l.length c] w fun en w' => en = .returned (gotV 0 n 0 0 2) ∧ Below w.heap.size w w' := by
  have HNB : Hid (∀ W, Below w.heap.size w W → Calls Try.prog 30 #[.slice A l.length c, .int .i64 n, .bool false] W fun e w' => e = .returned (.int .u32 (num false (l.take n.toNat))) ∧ Drawn0 W w') := Lib.hid (fun W hW => rnumC false A c l n W (Kd.C_below hC hW) hc hb (shp_ok hk).1 hl)
  have HNL : Hid (∀ W, Below w.heap.size w W → Calls Try.prog 30 #[.slice A l.length c, .int .i64 n, .bool true] W fun e w' => e = .returned (.int .u32 (num true (l.take n.toNat))) ∧ Drawn0 W w') := Lib.hid (fun W hW => rnumC true A c l n W (Kd.C_below hC hW) hc hb (shp_ok hk).1 hl)
  have hl' : ¬ (l.length : Int) < n := by omega
  rw [hy] at HNL
  have hx1 : ((num false (l.take n.toNat) : Int) == 65279) = false := beq_eq_false_iff_ne.2 hx
  clear hC hc hb hx hy
  generalize num false (l.take n.toNat) = x at *
  have HFI : Hid (∀ W, Calls Try.prog 21 #[.int .i64 kind, .agg #[.int .i64 0, .int .i64 0, .int .u32 0, .int .i32 0]] W fun e w' => e = .returned (.bool (decide (Fit true 0 0 0 0))) ∧ Below W.heap.size W w') := Lib.hid (fun W => rfitsC 0 0 0 W hk)
  unfold stV
  have HK := Lib.hid hk
  have HF := Lib.hid hf
  clear hk hf
  go_enter Try.func12, Try.ntmps12
  go_wp2_with fail
  refine (rhasC _ HK.out).mono ?_
  rintro e w1 ⟨rfl, hd⟩
  have hb := hd.below
  have ST1 : Hid ((w1).heap[w.heap.size]? = some (.cells #[.int .i64 0, .int .i64 0, .int .u32 0, .int .i32 0] 24 (0, 0))) := Lib.hid (blk_below (blk_alloc (heap_alloc_new _ _) _) hb)
  have RK1 : Hid ((w1).heap[w.heap.size + 1]? = some (.cells #[.int .i64 0, .int .i64 0, .int .i64 0, .int .i32 0, .int .i32 0, .int .i64 0, .int .i64 0, .int .u32 0, .int .i32 0] 32 (0, 0))) := Lib.hid (blk_below (blk_second _ _ _) hb)
  have HB1 : Hid (Below w.heap.size w (w1)) := Lib.hid (on (below_alloc (below_alloc (Below.refl _ _) _) _) hb)
  clear hb hd
  have hz1 : w.heap.size + 1 < w1.heap.size := blk_lt RK1.out
  have hy1 : w.heap.size < w1.heap.size := by omega
  have e0 := blk_cell ST1.out 0
  have e1 := blk_cell ST1.out 1
  have e2 := blk_cell ST1.out 2
  have e3 := blk_cell ST1.out 3
  go_wp2_with fail
  refine (HFI.out _).mono ?_
  rintro e w2 ⟨rfl, hb⟩
  have ST2 : Hid ((w2).heap[w.heap.size]? = some (.cells #[.int .i64 0, .int .i64 0, .int .u32 0, .int .i32 0] 24 (0, 0))) := Lib.hid (blk_below ST1.out hb)
  have RK2 : Hid ((w2).heap[w.heap.size + 1]? = some (.cells #[.int .i64 0, .int .i64 0, .int .i64 0, .int .i32 0, .int .i32 0, .int .i64 0, .int .i64 0, .int .u32 0, .int .i32 0] 32 (0, 0))) := Lib.hid (blk_below RK1.out hb)
  have HB2 : Hid (Below w.heap.size w (w2)) := Lib.hid (on HB1.out hb)
  clear hb ST1 RK1 HB1
  have hz2 : w.heap.size + 1 < w2.heap.size := blk_lt RK2.out
  have hy2 : w.heap.size < w2.heap.size := by omega
  rw [decide_eq_true HF.out]
  clear e0 e1 e2 e3
  have e0 := blk_cell ST2.out 0
  have e1 := blk_cell ST2.out 1
  have e2 := blk_cell ST2.out 2
  have e3 := blk_cell ST2.out 3
  go_wp2_with fail
  refine (rmarkedC _ HK.out).mono ?_
  rintro e w3 ⟨rfl, hd⟩
  have hb := hd.below
  have ST3 : Hid ((w3).heap[w.heap.size]? = some (.cells #[.int .i64 0, .int .i64 0, .int .u32 0, .int .i32 0] 24 (0, 0))) := Lib.hid (blk_below ST2.out hb)
  have RK3 : Hid ((w3).heap[w.heap.size + 1]? = some (.cells #[.int .i64 0, .int .i64 0, .int .i64 0, .int .i32 0, .int .i32 0, .int .i64 0, .int .i64 0, .int .u32 0, .int .i32 0] 32 (0, 0))) := Lib.hid (blk_below RK2.out hb)
  have HB3 : Hid (Below w.heap.size w (w3)) := Lib.hid (on HB2.out hb)
  clear hb hd ST2 RK2 HB2
  have hz3 : w.heap.size + 1 < w3.heap.size := blk_lt RK3.out
  have hy3 : w.heap.size < w3.heap.size := by omega
  clear e0 e1 e2 e3
  have e0 := blk_cell ST3.out 0
  have e1 := blk_cell ST3.out 1
  have e2 := blk_cell ST3.out 2
  have e3 := blk_cell ST3.out 3
  go_wp2_with fail
  refine (rsizeC _ HK.out).mono ?_
  rintro e w4 ⟨rfl, hd⟩
  have hb := hd.below
  have ST4 : Hid ((w4).heap[w.heap.size]? = some (.cells #[.int .i64 0, .int .i64 0, .int .u32 0, .int .i32 0] 24 (0, 0))) := Lib.hid (blk_below ST3.out hb)
  have RK4 : Hid ((w4).heap[w.heap.size + 1]? = some (.cells #[.int .i64 0, .int .i64 0, .int .i64 0, .int .i32 0, .int .i32 0, .int .i64 0, .int .i64 0, .int .u32 0, .int .i32 0] 32 (0, 0))) := Lib.hid (blk_below RK3.out hb)
  have HB4 : Hid (Below w.heap.size w (w4)) := Lib.hid (on HB3.out hb)
  clear hb hd ST3 RK3 HB3
  have hz4 : w.heap.size + 1 < w4.heap.size := blk_lt RK4.out
  have hy4 : w.heap.size < w4.heap.size := by omega
  clear e0 e1 e2 e3
  go_wp2_with fail
  refine (HNB.out _ HB4.out).mono ?_
  rintro e w5 ⟨rfl, hd⟩
  have hb := hd.below
  have ST5 : Hid ((w5).heap[w.heap.size]? = some (.cells #[.int .i64 0, .int .i64 0, .int .u32 0, .int .i32 0] 24 (0, 0))) := Lib.hid (blk_below ST4.out hb)
  have RK5 : Hid ((w5).heap[w.heap.size + 1]? = some (.cells #[.int .i64 0, .int .i64 0, .int .i64 0, .int .i32 0, .int .i32 0, .int .i64 0, .int .i64 0, .int .u32 0, .int .i32 0] 32 (0, 0))) := Lib.hid (blk_below RK4.out hb)
  have HB5 : Hid (Below w.heap.size w (w5)) := Lib.hid (on HB4.out hb)
  clear hb hd ST4 RK4 HB4
  have hz5 : w.heap.size + 1 < w5.heap.size := blk_lt RK5.out
  have hy5 : w.heap.size < w5.heap.size := by omega
  go_wp2_with fail
  refine (HNL.out _ HB5.out).mono ?_
  rintro e w6 ⟨rfl, hd⟩
  have hb := hd.below
  have ST6 : Hid ((w6).heap[w.heap.size]? = some (.cells #[.int .i64 0, .int .i64 0, .int .u32 0, .int .i32 0] 24 (0, 0))) := Lib.hid (blk_below ST5.out hb)
  have RK6 : Hid ((w6).heap[w.heap.size + 1]? = some (.cells #[.int .i64 0, .int .i64 0, .int .i64 0, .int .i32 0, .int .i32 0, .int .i64 0, .int .i64 0, .int .u32 0, .int .i32 0] 32 (0, 0))) := Lib.hid (blk_below RK5.out hb)
  have HB6 : Hid (Below w.heap.size w (w6)) := Lib.hid (on HB5.out hb)
  clear hb hd ST5 RK5 HB5
  have hz6 : w.heap.size + 1 < w6.heap.size := blk_lt RK6.out
  have hy6 : w.heap.size < w6.heap.size := by omega
  have r0 := blk_cell RK6.out 0
  have r1 := blk_cell RK6.out 1
  have r2 := blk_cell RK6.out 2
  have r3 := blk_cell RK6.out 3
  have r4 := blk_cell RK6.out 4
  have r5 := blk_cell RK6.out 5
  have r6 := blk_cell RK6.out 6
  have r7 := blk_cell RK6.out 7
  have r8 := blk_cell RK6.out 8
  have q0 := blk_frozen RK6.out 0
  have q1 := blk_frozen RK6.out 1
  have q2 := blk_frozen RK6.out 2
  have q3 := blk_frozen RK6.out 3
  have q4 := blk_frozen RK6.out 4
  have q5 := blk_frozen RK6.out 5
  have q6 := blk_frozen RK6.out 6
  have q7 := blk_frozen RK6.out 7
  have q8 := blk_frozen RK6.out 8
  go_wp2_with fail
  refine bodyPost_ret (results_cell_row rfl _ _ (w.heap.size + 1) 32 _ (0, 0) _ rfl (put9 RK6.out _ _ _ _ _ _ _ _ _) Try.underlying32 rfl (by kernel_rfl)) rfl ?_
  exact ⟨rfl, below9 HB6.out (Nat.le_succ _) _ _ _ _ _ _ _ _ _⟩
theorem put4a {w : World} {g : Nat} {t : TypeId} {o0 o1 o2 o3 : Value} (h : w.heap[g]? = some (.cells #[o0, o1, o2, o3] t (0, 0))) (u : Value) : (w.setCell ⟨g, 0, none⟩ u).heap[g]? = some (.cells #[u, o1, o2, o3] t (0, 0)) := by
  simpa using blk_set h 0 u
set_option maxHeartbeats 2000000 in
set_option maxRecDepth 100000 in
theorem rget_noMark (kind n e k s u : Int) (pairs low : Bool) (A : Option Addr) (c : Nat) (l : List Int) (w : World) (hk : shp kind 0 = some (n, pairs, true, low)) (hf : Fit true 0 0 0 0) (hC : Kd.C (Kd.int .u8) w A l.length l) (hc : l.length ≤ c) (hb : ∀ x ∈ l, Byte x) (hl : n ≤ l.length) (hx : num false (l.take n.toNat) ≠ 65279) (hy : num true (l.take n.toNat) ≠ 65279) (hg : GP n pairs low l e k s u) (h2 : (e != 1) = true) :
    Calls Try.prog 12 #[.int .i64 kind, stV 0 0 0 0, .slice A l.length c] w fun en w' => en = .returned (gotV e k s u 1) ∧ Below w.heap.size w w' := by
  have HNB : Hid (∀ W, Below w.heap.size w W → Calls Try.prog 30 #[.slice A l.length c, .int .i64 n, .bool false] W fun e w' => e = .returned (.int .u32 (num false (l.take n.toNat))) ∧ Drawn0 W w') := Lib.hid (fun W hW => rnumC false A c l n W (Kd.C_below hC hW) hc hb (shp_ok hk).1 hl)
  have HNL : Hid (∀ W, Below w.heap.size w W → Calls Try.prog 30 #[.slice A l.length c, .int .i64 n, .bool true] W fun e w' => e = .returned (.int .u32 (num true (l.take n.toNat))) ∧ Drawn0 W w') := Lib.hid (fun W hW => rnumC true A c l n W (Kd.C_below hC hW) hc hb (shp_ok hk).1 hl)
  have hl' : ¬ (l.length : Int) < n := by omega
  have HPL : Hid (∀ W, Below w.heap.size w W → Calls Try.prog 31 #[.int .i64 kind, .bool low, .slice A l.length c] W fun en w' => en = .returned (gotV e k s u 0) ∧ Below W.heap.size W w') := Lib.hid (fun W hW => rplainC W hk (Kd.C_below hC hW) hc hb hg)
  have hx1 : ((num false (l.take n.toNat) : Int) == 65279) = false := beq_eq_false_iff_ne.2 hx
  have hy1 : ((num true (l.take n.toNat) : Int) == 65279) = false := beq_eq_false_iff_ne.2 hy
  clear hC hc hb hx hy hg
  generalize num false (l.take n.toNat) = x at *
  generalize num true (l.take n.toNat) = y at *
  have HFI : Hid (∀ W, Calls Try.prog 21 #[.int .i64 kind, .agg #[.int .i64 0, .int .i64 0, .int .u32 0, .int .i32 0]] W fun e w' => e = .returned (.bool (decide (Fit true 0 0 0 0))) ∧ Below W.heap.size W w') := Lib.hid (fun W => rfitsC 0 0 0 W hk)
  unfold stV
  have HK := Lib.hid hk
  have HF := Lib.hid hf
  clear hk hf
  go_enter Try.func12, Try.ntmps12
  go_wp2_with fail
  refine (rhasC _ HK.out).mono ?_
  rintro e w1 ⟨rfl, hd⟩
  have hb := hd.below
  have ST1 : Hid ((w1).heap[w.heap.size]? = some (.cells #[.int .i64 0, .int .i64 0, .int .u32 0, .int .i32 0] 24 (0, 0))) := Lib.hid (blk_below (blk_alloc (heap_alloc_new _ _) _) hb)
  have RK1 : Hid ((w1).heap[w.heap.size + 1]? = some (.cells #[.int .i64 0, .int .i64 0, .int .i64 0, .int .i32 0, .int .i32 0, .int .i64 0, .int .i64 0, .int .u32 0, .int .i32 0] 32 (0, 0))) := Lib.hid (blk_below (blk_second _ _ _) hb)
  have HB1 : Hid (Below w.heap.size w (w1)) := Lib.hid (on (below_alloc (below_alloc (Below.refl _ _) _) _) hb)
  clear hb hd
  have hz1 : w.heap.size + 1 < w1.heap.size := blk_lt RK1.out
  have hy1 : w.heap.size < w1.heap.size := by omega
  have e0 := blk_cell ST1.out 0
  have e1 := blk_cell ST1.out 1
  have e2 := blk_cell ST1.out 2
  have e3 := blk_cell ST1.out 3
  go_wp2_with fail
  refine (HFI.out _).mono ?_
  rintro e w2 ⟨rfl, hb⟩
  have ST2 : Hid ((w2).heap[w.heap.size]? = some (.cells #[.int .i64 0, .int .i64 0, .int .u32 0, .int .i32 0] 24 (0, 0))) := Lib.hid (blk_below ST1.out hb)
  have RK2 : Hid ((w2).heap[w.heap.size + 1]? = some (.cells #[.int .i64 0, .int .i64 0, .int .i64 0, .int .i32 0, .int .i32 0, .int .i64 0, .int .i64 0, .int .u32 0, .int .i32 0] 32 (0, 0))) := Lib.hid (blk_below RK1.out hb)
  have HB2 : Hid (Below w.heap.size w (w2)) := Lib.hid (on HB1.out hb)
  clear hb ST1 RK1 HB1
  have hz2 : w.heap.size + 1 < w2.heap.size := blk_lt RK2.out
  have hy2 : w.heap.size < w2.heap.size := by omega
  rw [decide_eq_true HF.out]
  clear e0 e1 e2 e3
  have e0 := blk_cell ST2.out 0
  have e1 := blk_cell ST2.out 1
  have e2 := blk_cell ST2.out 2
  have e3 := blk_cell ST2.out 3
  go_wp2_with fail
  refine (rmarkedC _ HK.out).mono ?_
  rintro e w3 ⟨rfl, hd⟩
  have hb := hd.below
  have ST3 : Hid ((w3).heap[w.heap.size]? = some (.cells #[.int .i64 0, .int .i64 0, .int .u32 0, .int .i32 0] 24 (0, 0))) := Lib.hid (blk_below ST2.out hb)
  have RK3 : Hid ((w3).heap[w.heap.size + 1]? = some (.cells #[.int .i64 0, .int .i64 0, .int .i64 0, .int .i32 0, .int .i32 0, .int .i64 0, .int .i64 0, .int .u32 0, .int .i32 0] 32 (0, 0))) := Lib.hid (blk_below RK2.out hb)
  have HB3 : Hid (Below w.heap.size w (w3)) := Lib.hid (on HB2.out hb)
  clear hb hd ST2 RK2 HB2
  have hz3 : w.heap.size + 1 < w3.heap.size := blk_lt RK3.out
  have hy3 : w.heap.size < w3.heap.size := by omega
  clear e0 e1 e2 e3
  have e0 := blk_cell ST3.out 0
  have e1 := blk_cell ST3.out 1
  have e2 := blk_cell ST3.out 2
  have e3 := blk_cell ST3.out 3
  go_wp2_with fail
  refine (rsizeC _ HK.out).mono ?_
  rintro e w4 ⟨rfl, hd⟩
  have hb := hd.below
  have ST4 : Hid ((w4).heap[w.heap.size]? = some (.cells #[.int .i64 0, .int .i64 0, .int .u32 0, .int .i32 0] 24 (0, 0))) := Lib.hid (blk_below ST3.out hb)
  have RK4 : Hid ((w4).heap[w.heap.size + 1]? = some (.cells #[.int .i64 0, .int .i64 0, .int .i64 0, .int .i32 0, .int .i32 0, .int .i64 0, .int .i64 0, .int .u32 0, .int .i32 0] 32 (0, 0))) := Lib.hid (blk_below RK3.out hb)
  have HB4 : Hid (Below w.heap.size w (w4)) := Lib.hid (on HB3.out hb)
  clear hb hd ST3 RK3 HB3
  have hz4 : w.heap.size + 1 < w4.heap.size := blk_lt RK4.out
  have hy4 : w.heap.size < w4.heap.size := by omega
  clear e0 e1 e2 e3
  go_wp2_with fail
  refine (HNB.out _ HB4.out).mono ?_
  rintro e w5 ⟨rfl, hd⟩
  have hb := hd.below
  have ST5 : Hid ((w5).heap[w.heap.size]? = some (.cells #[.int .i64 0, .int .i64 0, .int .u32 0, .int .i32 0] 24 (0, 0))) := Lib.hid (blk_below ST4.out hb)
  have RK5 : Hid ((w5).heap[w.heap.size + 1]? = some (.cells #[.int .i64 0, .int .i64 0, .int .i64 0, .int .i32 0, .int .i32 0, .int .i64 0, .int .i64 0, .int .u32 0, .int .i32 0] 32 (0, 0))) := Lib.hid (blk_below RK4.out hb)
  have HB5 : Hid (Below w.heap.size w (w5)) := Lib.hid (on HB4.out hb)
  clear hb hd ST4 RK4 HB4
  have hz5 : w.heap.size + 1 < w5.heap.size := blk_lt RK5.out
  have hy5 : w.heap.size < w5.heap.size := by omega
  go_wp2_with fail
  refine (HNL.out _ HB5.out).mono ?_
  rintro e w6 ⟨rfl, hd⟩
  have hb := hd.below
  have ST6 : Hid ((w6).heap[w.heap.size]? = some (.cells #[.int .i64 0, .int .i64 0, .int .u32 0, .int .i32 0] 24 (0, 0))) := Lib.hid (blk_below ST5.out hb)
  have RK6 : Hid ((w6).heap[w.heap.size + 1]? = some (.cells #[.int .i64 0, .int .i64 0, .int .i64 0, .int .i32 0, .int .i32 0, .int .i64 0, .int .i64 0, .int .u32 0, .int .i32 0] 32 (0, 0))) := Lib.hid (blk_below RK5.out hb)
  have HB6 : Hid (Below w.heap.size w (w6)) := Lib.hid (on HB5.out hb)
  clear hb hd ST5 RK5 HB5
  have hz6 : w.heap.size + 1 < w6.heap.size := blk_lt RK6.out
  have hy6 : w.heap.size < w6.heap.size := by omega
  have e0 := blk_cell ST6.out 0
  have e1 := blk_cell ST6.out 1
  have e2 := blk_cell ST6.out 2
  have e3 := blk_cell ST6.out 3
  have f0 := blk_frozen ST6.out 0
  go_wp2_with fail
  refine (rlittle1C _ HK.out).mono ?_
  rintro e w7 ⟨rfl, hd⟩
  have hb := hd.below
  clear e0 e1 e2 e3
  clear f0
  have ST7 : Hid ((w7).heap[w.heap.size]? = some (.cells #[.int .i64 1, .int .i64 0, .int .u32 0, .int .i32 0] 24 (0, 0))) := Lib.hid (blk_below (put4a ST6.out _) hb)
  have RK7 : Hid ((w7).heap[w.heap.size + 1]? = some (.cells #[.int .i64 0, .int .i64 0, .int .i64 0, .int .i32 0, .int .i32 0, .int .i64 0, .int .i64 0, .int .u32 0, .int .i32 0] 32 (0, 0))) := Lib.hid (blk_below (blk_far RK6.out (show w.heap.size + 1 ≠ w.heap.size by omega) _) hb)
  have HB7 : Hid (Below w.heap.size w (w7)) := Lib.hid (on (HB6.out.setCell (Nat.le_refl _) _) hb)
  clear hb hd ST6 RK6 HB6
  have hz7 : w.heap.size + 1 < w7.heap.size := blk_lt RK7.out
  have hy7 : w.heap.size < w7.heap.size := by omega
  go_wp2_with fail
  refine (HPL.out _ HB7.out).mono ?_
  rintro e w8 ⟨rfl, hb⟩
  have ST8 : Hid ((w8).heap[w.heap.size]? = some (.cells #[.int .i64 1, .int .i64 0, .int .u32 0, .int .i32 0] 24 (0, 0))) := Lib.hid (blk_below ST7.out hb)
  have RK8 : Hid ((w8).heap[w.heap.size + 1]? = some (.cells #[.int .i64 0, .int .i64 0, .int .i64 0, .int .i32 0, .int .i32 0, .int .i64 0, .int .i64 0, .int .u32 0, .int .i32 0] 32 (0, 0))) := Lib.hid (blk_below RK7.out hb)
  have HB8 : Hid (Below w.heap.size w (w8)) := Lib.hid (on HB7.out hb)
  clear hb ST7 RK7 HB7
  have hz8 : w.heap.size + 1 < w8.heap.size := blk_lt RK8.out
  have hy8 : w.heap.size < w8.heap.size := by omega
  have e0 := blk_cell ST8.out 0
  have e1 := blk_cell ST8.out 1
  have e2 := blk_cell ST8.out 2
  have e3 := blk_cell ST8.out 3
  have r0 := blk_cell RK8.out 0
  have r1 := blk_cell RK8.out 1
  have r2 := blk_cell RK8.out 2
  have r3 := blk_cell RK8.out 3
  have r4 := blk_cell RK8.out 4
  have r5 := blk_cell RK8.out 5
  have r6 := blk_cell RK8.out 6
  have r7 := blk_cell RK8.out 7
  have r8 := blk_cell RK8.out 8
  have q0 := blk_frozen RK8.out 0
  have q1 := blk_frozen RK8.out 1
  have q2 := blk_frozen RK8.out 2
  have q3 := blk_frozen RK8.out 3
  have q4 := blk_frozen RK8.out 4
  have q5 := blk_frozen RK8.out 5
  have q6 := blk_frozen RK8.out 6
  have q7 := blk_frozen RK8.out 7
  have q8 := blk_frozen RK8.out 8
  unfold gotV
  go_wp2_with fail
  refine bodyPost_ret (results_cell_row rfl _ _ (w.heap.size + 1) 32 _ (0, 0) _ rfl (blk_alloc (put9 RK8.out _ _ _ _ _ _ _ _ _) _) Try.underlying32 rfl (by kernel_rfl)) rfl ?_
  exact ⟨rfl, below_alloc (below9 HB8.out (Nat.le_succ _) _ _ _ _ _ _ _ _ _) _⟩
set_option maxHeartbeats 2000000 in
set_option maxRecDepth 100000 in
theorem rget_noMore (kind n k s u : Int) (pairs low : Bool) (A : Option Addr) (c : Nat) (l : List Int) (w : World) (hk : shp kind 0 = some (n, pairs, true, low)) (hf : Fit true 0 0 0 0) (hC : Kd.C (Kd.int .u8) w A l.length l) (hc : l.length ≤ c) (hb : ∀ x ∈ l, Byte x) (hl : n ≤ l.length) (hx : num false (l.take n.toNat) ≠ 65279) (hy : num true (l.take n.toNat) ≠ 65279) (hg : GP n pairs low l 1 k s u) :
    Calls Try.prog 12 #[.int .i64 kind, stV 0 0 0 0, .slice A l.length c] w fun en w' => en = .returned (gotV 1 k s u 0) ∧ Below w.heap.size w w' := by
  have HNB : Hid (∀ W, Below w.heap.size w W → Calls Try.prog 30 #[.slice A l.length c, .int .i64 n, .bool false] W fun e w' => e = .returned (.int .u32 (num false (l.take n.toNat))) ∧ Drawn0 W w') := Lib.hid (fun W hW => rnumC false A c l n W (Kd.C_below hC hW) hc hb (shp_ok hk).1 hl)
  have HNL : Hid (∀ W, Below w.heap.size w W → Calls Try.prog 30 #[.slice A l.length c, .int .i64 n, .bool true] W fun e w' => e = .returned (.int .u32 (num true (l.take n.toNat))) ∧ Drawn0 W w') := Lib.hid (fun W hW => rnumC true A c l n W (Kd.C_below hC hW) hc hb (shp_ok hk).1 hl)
  have hl' : ¬ (l.length : Int) < n := by omega
  have HPL : Hid (∀ W, Below w.heap.size w W → Calls Try.prog 31 #[.int .i64 kind, .bool low, .slice A l.length c] W fun en w' => en = .returned (gotV 1 k s u 0) ∧ Below W.heap.size W w') := Lib.hid (fun W hW => rplainC W hk (Kd.C_below hC hW) hc hb hg)
  have hx1 : ((num false (l.take n.toNat) : Int) == 65279) = false := beq_eq_false_iff_ne.2 hx
  have hy1 : ((num true (l.take n.toNat) : Int) == 65279) = false := beq_eq_false_iff_ne.2 hy
  clear hC hc hb hx hy hg
  generalize num false (l.take n.toNat) = x at *
  generalize num true (l.take n.toNat) = y at *
  have HFI : Hid (∀ W, Calls Try.prog 21 #[.int .i64 kind, .agg #[.int .i64 0, .int .i64 0, .int .u32 0, .int .i32 0]] W fun e w' => e = .returned (.bool (decide (Fit true 0 0 0 0))) ∧ Below W.heap.size W w') := Lib.hid (fun W => rfitsC 0 0 0 W hk)
  unfold stV
  have HK := Lib.hid hk
  have HF := Lib.hid hf
  clear hk hf
  go_enter Try.func12, Try.ntmps12
  go_wp2_with fail
  refine (rhasC _ HK.out).mono ?_
  rintro e w1 ⟨rfl, hd⟩
  have hb := hd.below
  have ST1 : Hid ((w1).heap[w.heap.size]? = some (.cells #[.int .i64 0, .int .i64 0, .int .u32 0, .int .i32 0] 24 (0, 0))) := Lib.hid (blk_below (blk_alloc (heap_alloc_new _ _) _) hb)
  have RK1 : Hid ((w1).heap[w.heap.size + 1]? = some (.cells #[.int .i64 0, .int .i64 0, .int .i64 0, .int .i32 0, .int .i32 0, .int .i64 0, .int .i64 0, .int .u32 0, .int .i32 0] 32 (0, 0))) := Lib.hid (blk_below (blk_second _ _ _) hb)
  have HB1 : Hid (Below w.heap.size w (w1)) := Lib.hid (on (below_alloc (below_alloc (Below.refl _ _) _) _) hb)
  clear hb hd
  have hz1 : w.heap.size + 1 < w1.heap.size := blk_lt RK1.out
  have hy1 : w.heap.size < w1.heap.size := by omega
  have e0 := blk_cell ST1.out 0
  have e1 := blk_cell ST1.out 1
  have e2 := blk_cell ST1.out 2
  have e3 := blk_cell ST1.out 3
  go_wp2_with fail
  refine (HFI.out _).mono ?_
  rintro e w2 ⟨rfl, hb⟩
  have ST2 : Hid ((w2).heap[w.heap.size]? = some (.cells #[.int .i64 0, .int .i64 0, .int .u32 0, .int .i32 0] 24 (0, 0))) := Lib.hid (blk_below ST1.out hb)
  have RK2 : Hid ((w2).heap[w.heap.size + 1]? = some (.cells #[.int .i64 0, .int .i64 0, .int .i64 0, .int .i32 0, .int .i32 0, .int .i64 0, .int .i64 0, .int .u32 0, .int .i32 0] 32 (0, 0))) := Lib.hid (blk_below RK1.out hb)
  have HB2 : Hid (Below w.heap.size w (w2)) := Lib.hid (on HB1.out hb)
  clear hb ST1 RK1 HB1
  have hz2 : w.heap.size + 1 < w2.heap.size := blk_lt RK2.out
  have hy2 : w.heap.size < w2.heap.size := by omega
  rw [decide_eq_true HF.out]
  clear e0 e1 e2 e3
  have e0 := blk_cell ST2.out 0
  have e1 := blk_cell ST2.out 1
  have e2 := blk_cell ST2.out 2
  have e3 := blk_cell ST2.out 3
  go_wp2_with fail
  refine (rmarkedC _ HK.out).mono ?_
  rintro e w3 ⟨rfl, hd⟩
  have hb := hd.below
  have ST3 : Hid ((w3).heap[w.heap.size]? = some (.cells #[.int .i64 0, .int .i64 0, .int .u32 0, .int .i32 0] 24 (0, 0))) := Lib.hid (blk_below ST2.out hb)
  have RK3 : Hid ((w3).heap[w.heap.size + 1]? = some (.cells #[.int .i64 0, .int .i64 0, .int .i64 0, .int .i32 0, .int .i32 0, .int .i64 0, .int .i64 0, .int .u32 0, .int .i32 0] 32 (0, 0))) := Lib.hid (blk_below RK2.out hb)
  have HB3 : Hid (Below w.heap.size w (w3)) := Lib.hid (on HB2.out hb)
  clear hb hd ST2 RK2 HB2
  have hz3 : w.heap.size + 1 < w3.heap.size := blk_lt RK3.out
  have hy3 : w.heap.size < w3.heap.size := by omega
  clear e0 e1 e2 e3
  have e0 := blk_cell ST3.out 0
  have e1 := blk_cell ST3.out 1
  have e2 := blk_cell ST3.out 2
  have e3 := blk_cell ST3.out 3
  go_wp2_with fail
  refine (rsizeC _ HK.out).mono ?_
  rintro e w4 ⟨rfl, hd⟩
  have hb := hd.below
  have ST4 : Hid ((w4).heap[w.heap.size]? = some (.cells #[.int .i64 0, .int .i64 0, .int .u32 0, .int .i32 0] 24 (0, 0))) := Lib.hid (blk_below ST3.out hb)
  have RK4 : Hid ((w4).heap[w.heap.size + 1]? = some (.cells #[.int .i64 0, .int .i64 0, .int .i64 0, .int .i32 0, .int .i32 0, .int .i64 0, .int .i64 0, .int .u32 0, .int .i32 0] 32 (0, 0))) := Lib.hid (blk_below RK3.out hb)
  have HB4 : Hid (Below w.heap.size w (w4)) := Lib.hid (on HB3.out hb)
  clear hb hd ST3 RK3 HB3
  have hz4 : w.heap.size + 1 < w4.heap.size := blk_lt RK4.out
  have hy4 : w.heap.size < w4.heap.size := by omega
  clear e0 e1 e2 e3
  go_wp2_with fail
  refine (HNB.out _ HB4.out).mono ?_
  rintro e w5 ⟨rfl, hd⟩
  have hb := hd.below
  have ST5 : Hid ((w5).heap[w.heap.size]? = some (.cells #[.int .i64 0, .int .i64 0, .int .u32 0, .int .i32 0] 24 (0, 0))) := Lib.hid (blk_below ST4.out hb)
  have RK5 : Hid ((w5).heap[w.heap.size + 1]? = some (.cells #[.int .i64 0, .int .i64 0, .int .i64 0, .int .i32 0, .int .i32 0, .int .i64 0, .int .i64 0, .int .u32 0, .int .i32 0] 32 (0, 0))) := Lib.hid (blk_below RK4.out hb)
  have HB5 : Hid (Below w.heap.size w (w5)) := Lib.hid (on HB4.out hb)
  clear hb hd ST4 RK4 HB4
  have hz5 : w.heap.size + 1 < w5.heap.size := blk_lt RK5.out
  have hy5 : w.heap.size < w5.heap.size := by omega
  go_wp2_with fail
  refine (HNL.out _ HB5.out).mono ?_
  rintro e w6 ⟨rfl, hd⟩
  have hb := hd.below
  have ST6 : Hid ((w6).heap[w.heap.size]? = some (.cells #[.int .i64 0, .int .i64 0, .int .u32 0, .int .i32 0] 24 (0, 0))) := Lib.hid (blk_below ST5.out hb)
  have RK6 : Hid ((w6).heap[w.heap.size + 1]? = some (.cells #[.int .i64 0, .int .i64 0, .int .i64 0, .int .i32 0, .int .i32 0, .int .i64 0, .int .i64 0, .int .u32 0, .int .i32 0] 32 (0, 0))) := Lib.hid (blk_below RK5.out hb)
  have HB6 : Hid (Below w.heap.size w (w6)) := Lib.hid (on HB5.out hb)
  clear hb hd ST5 RK5 HB5
  have hz6 : w.heap.size + 1 < w6.heap.size := blk_lt RK6.out
  have hy6 : w.heap.size < w6.heap.size := by omega
  have e0 := blk_cell ST6.out 0
  have e1 := blk_cell ST6.out 1
  have e2 := blk_cell ST6.out 2
  have e3 := blk_cell ST6.out 3
  have f0 := blk_frozen ST6.out 0
  go_wp2_with fail
  refine (rlittle1C _ HK.out).mono ?_
  rintro e w7 ⟨rfl, hd⟩
  have hb := hd.below
  clear e0 e1 e2 e3
  clear f0
  have ST7 : Hid ((w7).heap[w.heap.size]? = some (.cells #[.int .i64 1, .int .i64 0, .int .u32 0, .int .i32 0] 24 (0, 0))) := Lib.hid (blk_below (put4a ST6.out _) hb)
  have RK7 : Hid ((w7).heap[w.heap.size + 1]? = some (.cells #[.int .i64 0, .int .i64 0, .int .i64 0, .int .i32 0, .int .i32 0, .int .i64 0, .int .i64 0, .int .u32 0, .int .i32 0] 32 (0, 0))) := Lib.hid (blk_below (blk_far RK6.out (show w.heap.size + 1 ≠ w.heap.size by omega) _) hb)
  have HB7 : Hid (Below w.heap.size w (w7)) := Lib.hid (on (HB6.out.setCell (Nat.le_refl _) _) hb)
  clear hb hd ST6 RK6 HB6
  have hz7 : w.heap.size + 1 < w7.heap.size := blk_lt RK7.out
  have hy7 : w.heap.size < w7.heap.size := by omega
  go_wp2_with fail
  refine (HPL.out _ HB7.out).mono ?_
  rintro e w8 ⟨rfl, hb⟩
  have ST8 : Hid ((w8).heap[w.heap.size]? = some (.cells #[.int .i64 1, .int .i64 0, .int .u32 0, .int .i32 0] 24 (0, 0))) := Lib.hid (blk_below ST7.out hb)
  have RK8 : Hid ((w8).heap[w.heap.size + 1]? = some (.cells #[.int .i64 0, .int .i64 0, .int .i64 0, .int .i32 0, .int .i32 0, .int .i64 0, .int .i64 0, .int .u32 0, .int .i32 0] 32 (0, 0))) := Lib.hid (blk_below RK7.out hb)
  have HB8 : Hid (Below w.heap.size w (w8)) := Lib.hid (on HB7.out hb)
  clear hb ST7 RK7 HB7
  have hz8 : w.heap.size + 1 < w8.heap.size := blk_lt RK8.out
  have hy8 : w.heap.size < w8.heap.size := by omega
  have e0 := blk_cell ST8.out 0
  have e1 := blk_cell ST8.out 1
  have e2 := blk_cell ST8.out 2
  have e3 := blk_cell ST8.out 3
  have r0 := blk_cell RK8.out 0
  have r1 := blk_cell RK8.out 1
  have r2 := blk_cell RK8.out 2
  have r3 := blk_cell RK8.out 3
  have r4 := blk_cell RK8.out 4
  have r5 := blk_cell RK8.out 5
  have r6 := blk_cell RK8.out 6
  have r7 := blk_cell RK8.out 7
  have r8 := blk_cell RK8.out 8
  have q0 := blk_frozen RK8.out 0
  have q1 := blk_frozen RK8.out 1
  have q2 := blk_frozen RK8.out 2
  have q3 := blk_frozen RK8.out 3
  have q4 := blk_frozen RK8.out 4
  have q5 := blk_frozen RK8.out 5
  have q6 := blk_frozen RK8.out 6
  have q7 := blk_frozen RK8.out 7
  have q8 := blk_frozen RK8.out 8
  unfold gotV
  go_wp2_with fail
  refine bodyPost_ret (results_cell_row rfl _ _ (w.heap.size + 1) 32 _ (0, 0) _ rfl (blk_alloc (put9 RK8.out _ _ _ _ _ _ _ _ _) _) Try.underlying32 rfl (by kernel_rfl)) rfl ?_
  exact ⟨rfl, below_alloc (below9 HB8.out (Nat.le_succ _) _ _ _ _ _ _ _ _ _) _⟩
set_option maxHeartbeats 2000000 in
set_option maxRecDepth 100000 in
theorem rget_plain (kind mode n e k s u : Int) (pairs marks low : Bool) (A : Option Addr) (c : Nat) (l : List Int) (w : World) (hk : shp kind mode = some (n, pairs, marks, low)) (hf : Fit marks mode 0 0 0) (hm : ¬ (marks = true ∧ mode = 0)) (hC : Kd.C (Kd.int .u8) w A l.length l) (hc : l.length ≤ c) (hb : ∀ x ∈ l, Byte x) (hg : GP n pairs low l e k s u) (h2 : (e != 1) = true) :
    Calls Try.prog 12 #[.int .i64 kind, stV mode 0 0 0, .slice A l.length c] w fun en w' => en = .returned (gotV e k s u mode) ∧ Below w.heap.size w w' := by
  have HPL : Hid (∀ W, Below w.heap.size w W → Calls Try.prog 31 #[.int .i64 kind, .bool low, .slice A l.length c] W fun en w' => en = .returned (gotV e k s u 0) ∧ Below W.heap.size W w') := Lib.hid (fun W hW => rplainC W hk (Kd.C_below hC hW) hc hb hg)
  clear hC hc hb hg
  have hmm : marks = false ∨ (marks = true ∧ (mode == 0) = false) := by cases marks; exact .inl rfl; exact .inr ⟨rfl, beq_eq_false_iff_ne.2 fun h0 => hm ⟨rfl, h0⟩⟩
  clear hm
  rcases hmm with rfl | ⟨rfl, hmm⟩
  · skip
    have HFI : Hid (∀ W, Calls Try.prog 21 #[.int .i64 kind, .agg #[.int .i64 mode, .int .i64 0, .int .u32 0, .int .i32 0]] W fun e w' => e = .returned (.bool (decide (Fit false mode 0 0 0))) ∧ Below W.heap.size W w') := Lib.hid (fun W => rfitsC 0 0 0 W hk)
    unfold stV
    have HK := Lib.hid hk
    have HF := Lib.hid hf
    clear hk hf
    go_enter Try.func12, Try.ntmps12
    go_wp2_with fail
    refine (rhasC _ HK.out).mono ?_
    rintro e w1 ⟨rfl, hd⟩
    have hb := hd.below
    have ST1 : Hid ((w1).heap[w.heap.size]? = some (.cells #[.int .i64 mode, .int .i64 0, .int .u32 0, .int .i32 0] 24 (0, 0))) := Lib.hid (blk_below (blk_alloc (heap_alloc_new _ _) _) hb)
    have RK1 : Hid ((w1).heap[w.heap.size + 1]? = some (.cells #[.int .i64 0, .int .i64 0, .int .i64 0, .int .i32 0, .int .i32 0, .int .i64 0, .int .i64 0, .int .u32 0, .int .i32 0] 32 (0, 0))) := Lib.hid (blk_below (blk_second _ _ _) hb)
    have HB1 : Hid (Below w.heap.size w (w1)) := Lib.hid (on (below_alloc (below_alloc (Below.refl _ _) _) _) hb)
    clear hb hd
    have hz1 : w.heap.size + 1 < w1.heap.size := blk_lt RK1.out
    have hy1 : w.heap.size < w1.heap.size := by omega
    have e0 := blk_cell ST1.out 0
    have e1 := blk_cell ST1.out 1
    have e2 := blk_cell ST1.out 2
    have e3 := blk_cell ST1.out 3
    go_wp2_with fail
    refine (HFI.out _).mono ?_
    rintro e w2 ⟨rfl, hb⟩
    have ST2 : Hid ((w2).heap[w.heap.size]? = some (.cells #[.int .i64 mode, .int .i64 0, .int .u32 0, .int .i32 0] 24 (0, 0))) := Lib.hid (blk_below ST1.out hb)
    have RK2 : Hid ((w2).heap[w.heap.size + 1]? = some (.cells #[.int .i64 0, .int .i64 0, .int .i64 0, .int .i32 0, .int .i32 0, .int .i64 0, .int .i64 0, .int .u32 0, .int .i32 0] 32 (0, 0))) := Lib.hid (blk_below RK1.out hb)
    have HB2 : Hid (Below w.heap.size w (w2)) := Lib.hid (on HB1.out hb)
    clear hb ST1 RK1 HB1
    have hz2 : w.heap.size + 1 < w2.heap.size := blk_lt RK2.out
    have hy2 : w.heap.size < w2.heap.size := by omega
    rw [decide_eq_true HF.out]
    clear e0 e1 e2 e3
    have e0 := blk_cell ST2.out 0
    have e1 := blk_cell ST2.out 1
    have e2 := blk_cell ST2.out 2
    have e3 := blk_cell ST2.out 3
    go_wp2_with fail
    refine (rmarkedC _ HK.out).mono ?_
    rintro e w3 ⟨rfl, hd⟩
    have hb := hd.below
    have ST3 : Hid ((w3).heap[w.heap.size]? = some (.cells #[.int .i64 mode, .int .i64 0, .int .u32 0, .int .i32 0] 24 (0, 0))) := Lib.hid (blk_below ST2.out hb)
    have RK3 : Hid ((w3).heap[w.heap.size + 1]? = some (.cells #[.int .i64 0, .int .i64 0, .int .i64 0, .int .i32 0, .int .i32 0, .int .i64 0, .int .i64 0, .int .u32 0, .int .i32 0] 32 (0, 0))) := Lib.hid (blk_below RK2.out hb)
    have HB3 : Hid (Below w.heap.size w (w3)) := Lib.hid (on HB2.out hb)
    clear hb hd ST2 RK2 HB2
    have hz3 : w.heap.size + 1 < w3.heap.size := blk_lt RK3.out
    have hy3 : w.heap.size < w3.heap.size := by omega
    clear e0 e1 e2 e3
    have e0 := blk_cell ST3.out 0
    have e1 := blk_cell ST3.out 1
    have e2 := blk_cell ST3.out 2
    have e3 := blk_cell ST3.out 3
    go_wp2_with fail
    refine (rlittleC _ HK.out).mono ?_
    rintro e w4 ⟨rfl, hd⟩
    have hb := hd.below
    have ST4 : Hid ((w4).heap[w.heap.size]? = some (.cells #[.int .i64 mode, .int .i64 0, .int .u32 0, .int .i32 0] 24 (0, 0))) := Lib.hid (blk_below ST3.out hb)
    have RK4 : Hid ((w4).heap[w.heap.size + 1]? = some (.cells #[.int .i64 0, .int .i64 0, .int .i64 0, .int .i32 0, .int .i32 0, .int .i64 0, .int .i64 0, .int .u32 0, .int .i32 0] 32 (0, 0))) := Lib.hid (blk_below RK3.out hb)
    have HB4 : Hid (Below w.heap.size w (w4)) := Lib.hid (on HB3.out hb)
    clear hb hd ST3 RK3 HB3
    have hz4 : w.heap.size + 1 < w4.heap.size := blk_lt RK4.out
    have hy4 : w.heap.size < w4.heap.size := by omega
    clear e0 e1 e2 e3
    go_wp2_with fail
    refine (HPL.out _ HB4.out).mono ?_
    rintro e w8 ⟨rfl, hb⟩
    have ST5 : Hid ((w8).heap[w.heap.size]? = some (.cells #[.int .i64 mode, .int .i64 0, .int .u32 0, .int .i32 0] 24 (0, 0))) := Lib.hid (blk_below ST4.out hb)
    have RK5 : Hid ((w8).heap[w.heap.size + 1]? = some (.cells #[.int .i64 0, .int .i64 0, .int .i64 0, .int .i32 0, .int .i32 0, .int .i64 0, .int .i64 0, .int .u32 0, .int .i32 0] 32 (0, 0))) := Lib.hid (blk_below RK4.out hb)
    have HB5 : Hid (Below w.heap.size w (w8)) := Lib.hid (on HB4.out hb)
    clear hb ST4 RK4 HB4
    have hz5 : w.heap.size + 1 < w8.heap.size := blk_lt RK5.out
    have hy5 : w.heap.size < w8.heap.size := by omega
    have e0 := blk_cell ST5.out 0
    have e1 := blk_cell ST5.out 1
    have e2 := blk_cell ST5.out 2
    have e3 := blk_cell ST5.out 3
    have r0 := blk_cell RK5.out 0
    have r1 := blk_cell RK5.out 1
    have r2 := blk_cell RK5.out 2
    have r3 := blk_cell RK5.out 3
    have r4 := blk_cell RK5.out 4
    have r5 := blk_cell RK5.out 5
    have r6 := blk_cell RK5.out 6
    have r7 := blk_cell RK5.out 7
    have r8 := blk_cell RK5.out 8
    have q0 := blk_frozen RK5.out 0
    have q1 := blk_frozen RK5.out 1
    have q2 := blk_frozen RK5.out 2
    have q3 := blk_frozen RK5.out 3
    have q4 := blk_frozen RK5.out 4
    have q5 := blk_frozen RK5.out 5
    have q6 := blk_frozen RK5.out 6
    have q7 := blk_frozen RK5.out 7
    have q8 := blk_frozen RK5.out 8
    unfold gotV
    go_wp2_with fail
    refine bodyPost_ret (results_cell_row rfl _ _ (w.heap.size + 1) 32 _ (0, 0) _ rfl (blk_alloc (put9 RK5.out _ _ _ _ _ _ _ _ _) _) Try.underlying32 rfl (by kernel_rfl)) rfl ?_
    exact ⟨rfl, below_alloc (below9 HB5.out (Nat.le_succ _) _ _ _ _ _ _ _ _ _) _⟩
  · skip
    have HFI : Hid (∀ W, Calls Try.prog 21 #[.int .i64 kind, .agg #[.int .i64 mode, .int .i64 0, .int .u32 0, .int .i32 0]] W fun e w' => e = .returned (.bool (decide (Fit true mode 0 0 0))) ∧ Below W.heap.size W w') := Lib.hid (fun W => rfitsC 0 0 0 W hk)
    unfold stV
    have HK := Lib.hid hk
    have HF := Lib.hid hf
    clear hk hf
    go_enter Try.func12, Try.ntmps12
    go_wp2_with fail
    refine (rhasC _ HK.out).mono ?_
    rintro e w1 ⟨rfl, hd⟩
    have hb := hd.below
    have ST1 : Hid ((w1).heap[w.heap.size]? = some (.cells #[.int .i64 mode, .int .i64 0, .int .u32 0, .int .i32 0] 24 (0, 0))) := Lib.hid (blk_below (blk_alloc (heap_alloc_new _ _) _) hb)
    have RK1 : Hid ((w1).heap[w.heap.size + 1]? = some (.cells #[.int .i64 0, .int .i64 0, .int .i64 0, .int .i32 0, .int .i32 0, .int .i64 0, .int .i64 0, .int .u32 0, .int .i32 0] 32 (0, 0))) := Lib.hid (blk_below (blk_second _ _ _) hb)
    have HB1 : Hid (Below w.heap.size w (w1)) := Lib.hid (on (below_alloc (below_alloc (Below.refl _ _) _) _) hb)
    clear hb hd
    have hz1 : w.heap.size + 1 < w1.heap.size := blk_lt RK1.out
    have hy1 : w.heap.size < w1.heap.size := by omega
    have e0 := blk_cell ST1.out 0
    have e1 := blk_cell ST1.out 1
    have e2 := blk_cell ST1.out 2
    have e3 := blk_cell ST1.out 3
    go_wp2_with fail
    refine (HFI.out _).mono ?_
    rintro e w2 ⟨rfl, hb⟩
    have ST2 : Hid ((w2).heap[w.heap.size]? = some (.cells #[.int .i64 mode, .int .i64 0, .int .u32 0, .int .i32 0] 24 (0, 0))) := Lib.hid (blk_below ST1.out hb)
    have RK2 : Hid ((w2).heap[w.heap.size + 1]? = some (.cells #[.int .i64 0, .int .i64 0, .int .i64 0, .int .i32 0, .int .i32 0, .int .i64 0, .int .i64 0, .int .u32 0, .int .i32 0] 32 (0, 0))) := Lib.hid (blk_below RK1.out hb)
    have HB2 : Hid (Below w.heap.size w (w2)) := Lib.hid (on HB1.out hb)
    clear hb ST1 RK1 HB1
    have hz2 : w.heap.size + 1 < w2.heap.size := blk_lt RK2.out
    have hy2 : w.heap.size < w2.heap.size := by omega
    rw [decide_eq_true HF.out]
    clear e0 e1 e2 e3
    have e0 := blk_cell ST2.out 0
    have e1 := blk_cell ST2.out 1
    have e2 := blk_cell ST2.out 2
    have e3 := blk_cell ST2.out 3
    go_wp2_with fail
    refine (rmarkedC _ HK.out).mono ?_
    rintro e w3 ⟨rfl, hd⟩
    have hb := hd.below
    have ST3 : Hid ((w3).heap[w.heap.size]? = some (.cells #[.int .i64 mode, .int .i64 0, .int .u32 0, .int .i32 0] 24 (0, 0))) := Lib.hid (blk_below ST2.out hb)
    have RK3 : Hid ((w3).heap[w.heap.size + 1]? = some (.cells #[.int .i64 0, .int .i64 0, .int .i64 0, .int .i32 0, .int .i32 0, .int .i64 0, .int .i64 0, .int .u32 0, .int .i32 0] 32 (0, 0))) := Lib.hid (blk_below RK2.out hb)
    have HB3 : Hid (Below w.heap.size w (w3)) := Lib.hid (on HB2.out hb)
    clear hb hd ST2 RK2 HB2
    have hz3 : w.heap.size + 1 < w3.heap.size := blk_lt RK3.out
    have hy3 : w.heap.size < w3.heap.size := by omega
    clear e0 e1 e2 e3
    have e0 := blk_cell ST3.out 0
    have e1 := blk_cell ST3.out 1
    have e2 := blk_cell ST3.out 2
    have e3 := blk_cell ST3.out 3
    go_wp2_with fail
    refine (rlittleC _ HK.out).mono ?_
    rintro e w4 ⟨rfl, hd⟩
    have hb := hd.below
    have ST4 : Hid ((w4).heap[w.heap.size]? = some (.cells #[.int .i64 mode, .int .i64 0, .int .u32 0, .int .i32 0] 24 (0, 0))) := Lib.hid (blk_below ST3.out hb)
    have RK4 : Hid ((w4).heap[w.heap.size + 1]? = some (.cells #[.int .i64 0, .int .i64 0, .int .i64 0, .int .i32 0, .int .i32 0, .int .i64 0, .int .i64 0, .int .u32 0, .int .i32 0] 32 (0, 0))) := Lib.hid (blk_below RK3.out hb)
    have HB4 : Hid (Below w.heap.size w (w4)) := Lib.hid (on HB3.out hb)
    clear hb hd ST3 RK3 HB3
    have hz4 : w.heap.size + 1 < w4.heap.size := blk_lt RK4.out
    have hy4 : w.heap.size < w4.heap.size := by omega
    clear e0 e1 e2 e3
    go_wp2_with fail
    refine (HPL.out _ HB4.out).mono ?_
    rintro e w8 ⟨rfl, hb⟩
    have ST5 : Hid ((w8).heap[w.heap.size]? = some (.cells #[.int .i64 mode, .int .i64 0, .int .u32 0, .int .i32 0] 24 (0, 0))) := Lib.hid (blk_below ST4.out hb)
    have RK5 : Hid ((w8).heap[w.heap.size + 1]? = some (.cells #[.int .i64 0, .int .i64 0, .int .i64 0, .int .i32 0, .int .i32 0, .int .i64 0, .int .i64 0, .int .u32 0, .int .i32 0] 32 (0, 0))) := Lib.hid (blk_below RK4.out hb)
    have HB5 : Hid (Below w.heap.size w (w8)) := Lib.hid (on HB4.out hb)
    clear hb ST4 RK4 HB4
    have hz5 : w.heap.size + 1 < w8.heap.size := blk_lt RK5.out
    have hy5 : w.heap.size < w8.heap.size := by omega
    have e0 := blk_cell ST5.out 0
    have e1 := blk_cell ST5.out 1
    have e2 := blk_cell ST5.out 2
    have e3 := blk_cell ST5.out 3
    have r0 := blk_cell RK5.out 0
    have r1 := blk_cell RK5.out 1
    have r2 := blk_cell RK5.out 2
    have r3 := blk_cell RK5.out 3
    have r4 := blk_cell RK5.out 4
    have r5 := blk_cell RK5.out 5
    have r6 := blk_cell RK5.out 6
    have r7 := blk_cell RK5.out 7
    have r8 := blk_cell RK5.out 8
    have q0 := blk_frozen RK5.out 0
    have q1 := blk_frozen RK5.out 1
    have q2 := blk_frozen RK5.out 2
    have q3 := blk_frozen RK5.out 3
    have q4 := blk_frozen RK5.out 4
    have q5 := blk_frozen RK5.out 5
    have q6 := blk_frozen RK5.out 6
    have q7 := blk_frozen RK5.out 7
    have q8 := blk_frozen RK5.out 8
    unfold gotV
    go_wp2_with fail
    refine bodyPost_ret (results_cell_row rfl _ _ (w.heap.size + 1) 32 _ (0, 0) _ rfl (blk_alloc (put9 RK5.out _ _ _ _ _ _ _ _ _) _) Try.underlying32 rfl (by kernel_rfl)) rfl ?_
    exact ⟨rfl, below_alloc (below9 HB5.out (Nat.le_succ _) _ _ _ _ _ _ _ _ _) _⟩
set_option maxHeartbeats 2000000 in
set_option maxRecDepth 100000 in
theorem rget_plainMore (kind mode n k s u : Int) (pairs marks low : Bool) (A : Option Addr) (c : Nat) (l : List Int) (w : World) (hk : shp kind mode = some (n, pairs, marks, low)) (hf : Fit marks mode 0 0 0) (hm : ¬ (marks = true ∧ mode = 0)) (hC : Kd.C (Kd.int .u8) w A l.length l) (hc : l.length ≤ c) (hb : ∀ x ∈ l, Byte x) (hg : GP n pairs low l 1 k s u) :
    Calls Try.prog 12 #[.int .i64 kind, stV mode 0 0 0, .slice A l.length c] w fun en w' => en = .returned (gotV 1 k s u 0) ∧ Below w.heap.size w w' := by
  have HPL : Hid (∀ W, Below w.heap.size w W → Calls Try.prog 31 #[.int .i64 kind, .bool low, .slice A l.length c] W fun en w' => en = .returned (gotV 1 k s u 0) ∧ Below W.heap.size W w') := Lib.hid (fun W hW => rplainC W hk (Kd.C_below hC hW) hc hb hg)
  clear hC hc hb hg
  have hmm : marks = false ∨ (marks = true ∧ (mode == 0) = false) := by cases marks; exact .inl rfl; exact .inr ⟨rfl, beq_eq_false_iff_ne.2 fun h0 => hm ⟨rfl, h0⟩⟩
  clear hm
  rcases hmm with rfl | ⟨rfl, hmm⟩
  · skip
    have HFI : Hid (∀ W, Calls Try.prog 21 #[.int .i64 kind, .agg #[.int .i64 mode, .int .i64 0, .int .u32 0, .int .i32 0]] W fun e w' => e = .returned (.bool (decide (Fit false mode 0 0 0))) ∧ Below W.heap.size W w') := Lib.hid (fun W => rfitsC 0 0 0 W hk)
    unfold stV
    have HK := Lib.hid hk
    have HF := Lib.hid hf
    clear hk hf
    go_enter Try.func12, Try.ntmps12
    go_wp2_with fail
    refine (rhasC _ HK.out).mono ?_
    rintro e w1 ⟨rfl, hd⟩
    have hb := hd.below
    have ST1 : Hid ((w1).heap[w.heap.size]? = some (.cells #[.int .i64 mode, .int .i64 0, .int .u32 0, .int .i32 0] 24 (0, 0))) := Lib.hid (blk_below (blk_alloc (heap_alloc_new _ _) _) hb)
    have RK1 : Hid ((w1).heap[w.heap.size + 1]? = some (.cells #[.int .i64 0, .int .i64 0, .int .i64 0, .int .i32 0, .int .i32 0, .int .i64 0, .int .i64 0, .int .u32 0, .int .i32 0] 32 (0, 0))) := Lib.hid (blk_below (blk_second _ _ _) hb)
    have HB1 : Hid (Below w.heap.size w (w1)) := Lib.hid (on (below_alloc (below_alloc (Below.refl _ _) _) _) hb)
    clear hb hd
    have hz1 : w.heap.size + 1 < w1.heap.size := blk_lt RK1.out
    have hy1 : w.heap.size < w1.heap.size := by omega
    have e0 := blk_cell ST1.out 0
    have e1 := blk_cell ST1.out 1
    have e2 := blk_cell ST1.out 2
    have e3 := blk_cell ST1.out 3
    go_wp2_with fail
    refine (HFI.out _).mono ?_
    rintro e w2 ⟨rfl, hb⟩
    have ST2 : Hid ((w2).heap[w.heap.size]? = some (.cells #[.int .i64 mode, .int .i64 0, .int .u32 0, .int .i32 0] 24 (0, 0))) := Lib.hid (blk_below ST1.out hb)
    have RK2 : Hid ((w2).heap[w.heap.size + 1]? = some (.cells #[.int .i64 0, .int .i64 0, .int .i64 0, .int .i32 0, .int .i32 0, .int .i64 0, .int .i64 0, .int .u32 0, .int .i32 0] 32 (0, 0))) := Lib.hid (blk_below RK1.out hb)
    have HB2 : Hid (Below w.heap.size w (w2)) := Lib.hid (on HB1.out hb)
    clear hb ST1 RK1 HB1
    have hz2 : w.heap.size + 1 < w2.heap.size := blk_lt RK2.out
    have hy2 : w.heap.size < w2.heap.size := by omega
    rw [decide_eq_true HF.out]
    clear e0 e1 e2 e3
    have e0 := blk_cell ST2.out 0
    have e1 := blk_cell ST2.out 1
    have e2 := blk_cell ST2.out 2
    have e3 := blk_cell ST2.out 3
    go_wp2_with fail
    refine (rmarkedC _ HK.out).mono ?_
    rintro e w3 ⟨rfl, hd⟩
    have hb := hd.below
    have ST3 : Hid ((w3).heap[w.heap.size]? = some (.cells #[.int .i64 mode, .int .i64 0, .int .u32 0, .int .i32 0] 24 (0, 0))) := Lib.hid (blk_below ST2.out hb)
    have RK3 : Hid ((w3).heap[w.heap.size + 1]? = some (.cells #[.int .i64 0, .int .i64 0, .int .i64 0, .int .i32 0, .int .i32 0, .int .i64 0, .int .i64 0, .int .u32 0, .int .i32 0] 32 (0, 0))) := Lib.hid (blk_below RK2.out hb)
    have HB3 : Hid (Below w.heap.size w (w3)) := Lib.hid (on HB2.out hb)
    clear hb hd ST2 RK2 HB2
    have hz3 : w.heap.size + 1 < w3.heap.size := blk_lt RK3.out
    have hy3 : w.heap.size < w3.heap.size := by omega
    clear e0 e1 e2 e3
    have e0 := blk_cell ST3.out 0
    have e1 := blk_cell ST3.out 1
    have e2 := blk_cell ST3.out 2
    have e3 := blk_cell ST3.out 3
    go_wp2_with fail
    refine (rlittleC _ HK.out).mono ?_
    rintro e w4 ⟨rfl, hd⟩
    have hb := hd.below
    have ST4 : Hid ((w4).heap[w.heap.size]? = some (.cells #[.int .i64 mode, .int .i64 0, .int .u32 0, .int .i32 0] 24 (0, 0))) := Lib.hid (blk_below ST3.out hb)
    have RK4 : Hid ((w4).heap[w.heap.size + 1]? = some (.cells #[.int .i64 0, .int .i64 0, .int .i64 0, .int .i32 0, .int .i32 0, .int .i64 0, .int .i64 0, .int .u32 0, .int .i32 0] 32 (0, 0))) := Lib.hid (blk_below RK3.out hb)
    have HB4 : Hid (Below w.heap.size w (w4)) := Lib.hid (on HB3.out hb)
    clear hb hd ST3 RK3 HB3
    have hz4 : w.heap.size + 1 < w4.heap.size := blk_lt RK4.out
    have hy4 : w.heap.size < w4.heap.size := by omega
    clear e0 e1 e2 e3
    go_wp2_with fail
    refine (HPL.out _ HB4.out).mono ?_
    rintro e w8 ⟨rfl, hb⟩
    have ST5 : Hid ((w8).heap[w.heap.size]? = some (.cells #[.int .i64 mode, .int .i64 0, .int .u32 0, .int .i32 0] 24 (0, 0))) := Lib.hid (blk_below ST4.out hb)
    have RK5 : Hid ((w8).heap[w.heap.size + 1]? = some (.cells #[.int .i64 0, .int .i64 0, .int .i64 0, .int .i32 0, .int .i32 0, .int .i64 0, .int .i64 0, .int .u32 0, .int .i32 0] 32 (0, 0))) := Lib.hid (blk_below RK4.out hb)
    have HB5 : Hid (Below w.heap.size w (w8)) := Lib.hid (on HB4.out hb)
    clear hb ST4 RK4 HB4
    have hz5 : w.heap.size + 1 < w8.heap.size := blk_lt RK5.out
    have hy5 : w.heap.size < w8.heap.size := by omega
    have e0 := blk_cell ST5.out 0
    have e1 := blk_cell ST5.out 1
    have e2 := blk_cell ST5.out 2
    have e3 := blk_cell ST5.out 3
    have r0 := blk_cell RK5.out 0
    have r1 := blk_cell RK5.out 1
    have r2 := blk_cell RK5.out 2
    have r3 := blk_cell RK5.out 3
    have r4 := blk_cell RK5.out 4
    have r5 := blk_cell RK5.out 5
    have r6 := blk_cell RK5.out 6
    have r7 := blk_cell RK5.out 7
    have r8 := blk_cell RK5.out 8
    have q0 := blk_frozen RK5.out 0
    have q1 := blk_frozen RK5.out 1
    have q2 := blk_frozen RK5.out 2
    have q3 := blk_frozen RK5.out 3
    have q4 := blk_frozen RK5.out 4
    have q5 := blk_frozen RK5.out 5
    have q6 := blk_frozen RK5.out 6
    have q7 := blk_frozen RK5.out 7
    have q8 := blk_frozen RK5.out 8
    unfold gotV
    go_wp2_with fail
    refine bodyPost_ret (results_cell_row rfl _ _ (w.heap.size + 1) 32 _ (0, 0) _ rfl (blk_alloc (put9 RK5.out _ _ _ _ _ _ _ _ _) _) Try.underlying32 rfl (by kernel_rfl)) rfl ?_
    exact ⟨rfl, below_alloc (below9 HB5.out (Nat.le_succ _) _ _ _ _ _ _ _ _ _) _⟩
  · skip
    have HFI : Hid (∀ W, Calls Try.prog 21 #[.int .i64 kind, .agg #[.int .i64 mode, .int .i64 0, .int .u32 0, .int .i32 0]] W fun e w' => e = .returned (.bool (decide (Fit true mode 0 0 0))) ∧ Below W.heap.size W w') := Lib.hid (fun W => rfitsC 0 0 0 W hk)
    unfold stV
    have HK := Lib.hid hk
    have HF := Lib.hid hf
    clear hk hf
    go_enter Try.func12, Try.ntmps12
    go_wp2_with fail
    refine (rhasC _ HK.out).mono ?_
    rintro e w1 ⟨rfl, hd⟩
    have hb := hd.below
    have ST1 : Hid ((w1).heap[w.heap.size]? = some (.cells #[.int .i64 mode, .int .i64 0, .int .u32 0, .int .i32 0] 24 (0, 0))) := Lib.hid (blk_below (blk_alloc (heap_alloc_new _ _) _) hb)
    have RK1 : Hid ((w1).heap[w.heap.size + 1]? = some (.cells #[.int .i64 0, .int .i64 0, .int .i64 0, .int .i32 0, .int .i32 0, .int .i64 0, .int .i64 0, .int .u32 0, .int .i32 0] 32 (0, 0))) := Lib.hid (blk_below (blk_second _ _ _) hb)
    have HB1 : Hid (Below w.heap.size w (w1)) := Lib.hid (on (below_alloc (below_alloc (Below.refl _ _) _) _) hb)
    clear hb hd
    have hz1 : w.heap.size + 1 < w1.heap.size := blk_lt RK1.out
    have hy1 : w.heap.size < w1.heap.size := by omega
    have e0 := blk_cell ST1.out 0
    have e1 := blk_cell ST1.out 1
    have e2 := blk_cell ST1.out 2
    have e3 := blk_cell ST1.out 3
    go_wp2_with fail
    refine (HFI.out _).mono ?_
    rintro e w2 ⟨rfl, hb⟩
    have ST2 : Hid ((w2).heap[w.heap.size]? = some (.cells #[.int .i64 mode, .int .i64 0, .int .u32 0, .int .i32 0] 24 (0, 0))) := Lib.hid (blk_below ST1.out hb)
    have RK2 : Hid ((w2).heap[w.heap.size + 1]? = some (.cells #[.int .i64 0, .int .i64 0, .int .i64 0, .int .i32 0, .int .i32 0, .int .i64 0, .int .i64 0, .int .u32 0, .int .i32 0] 32 (0, 0))) := Lib.hid (blk_below RK1.out hb)
    have HB2 : Hid (Below w.heap.size w (w2)) := Lib.hid (on HB1.out hb)
    clear hb ST1 RK1 HB1
    have hz2 : w.heap.size + 1 < w2.heap.size := blk_lt RK2.out
    have hy2 : w.heap.size < w2.heap.size := by omega
    rw [decide_eq_true HF.out]
    clear e0 e1 e2 e3
    have e0 := blk_cell ST2.out 0
    have e1 := blk_cell ST2.out 1
    have e2 := blk_cell ST2.out 2
    have e3 := blk_cell ST2.out 3
    go_wp2_with fail
    refine (rmarkedC _ HK.out).mono ?_
    rintro e w3 ⟨rfl, hd⟩
    have hb := hd.below
    have ST3 : Hid ((w3).heap[w.heap.size]? = some (.cells #[.int .i64 mode, .int .i64 0, .int .u32 0, .int .i32 0] 24 (0, 0))) := Lib.hid (blk_below ST2.out hb)
    have RK3 : Hid ((w3).heap[w.heap.size + 1]? = some (.cells #[.int .i64 0, .int .i64 0, .int .i64 0, .int .i32 0, .int .i32 0, .int .i64 0, .int .i64 0, .int .u32 0, .int .i32 0] 32 (0, 0))) := Lib.hid (blk_below RK2.out hb)
    have HB3 : Hid (Below w.heap.size w (w3)) := Lib.hid (on HB2.out hb)
    clear hb hd ST2 RK2 HB2
    have hz3 : w.heap.size + 1 < w3.heap.size := blk_lt RK3.out
    have hy3 : w.heap.size < w3.heap.size := by omega
    clear e0 e1 e2 e3
    have e0 := blk_cell ST3.out 0
    have e1 := blk_cell ST3.out 1
    have e2 := blk_cell ST3.out 2
    have e3 := blk_cell ST3.out 3
    go_wp2_with fail
    refine (rlittleC _ HK.out).mono ?_
    rintro e w4 ⟨rfl, hd⟩
    have hb := hd.below
    have ST4 : Hid ((w4).heap[w.heap.size]? = some (.cells #[.int .i64 mode, .int .i64 0, .int .u32 0, .int .i32 0] 24 (0, 0))) := Lib.hid (blk_below ST3.out hb)
    have RK4 : Hid ((w4).heap[w.heap.size + 1]? = some (.cells #[.int .i64 0, .int .i64 0, .int .i64 0, .int .i32 0, .int .i32 0, .int .i64 0, .int .i64 0, .int .u32 0, .int .i32 0] 32 (0, 0))) := Lib.hid (blk_below RK3.out hb)
    have HB4 : Hid (Below w.heap.size w (w4)) := Lib.hid (on HB3.out hb)
    clear hb hd ST3 RK3 HB3
    have hz4 : w.heap.size + 1 < w4.heap.size := blk_lt RK4.out
    have hy4 : w.heap.size < w4.heap.size := by omega
    clear e0 e1 e2 e3
    go_wp2_with fail
    refine (HPL.out _ HB4.out).mono ?_
    rintro e w8 ⟨rfl, hb⟩
    have ST5 : Hid ((w8).heap[w.heap.size]? = some (.cells #[.int .i64 mode, .int .i64 0, .int .u32 0, .int .i32 0] 24 (0, 0))) := Lib.hid (blk_below ST4.out hb)
    have RK5 : Hid ((w8).heap[w.heap.size + 1]? = some (.cells #[.int .i64 0, .int .i64 0, .int .i64 0, .int .i32 0, .int .i32 0, .int .i64 0, .int .i64 0, .int .u32 0, .int .i32 0] 32 (0, 0))) := Lib.hid (blk_below RK4.out hb)
    have HB5 : Hid (Below w.heap.size w (w8)) := Lib.hid (on HB4.out hb)
    clear hb ST4 RK4 HB4
    have hz5 : w.heap.size + 1 < w8.heap.size := blk_lt RK5.out
    have hy5 : w.heap.size < w8.heap.size := by omega
    have e0 := blk_cell ST5.out 0
    have e1 := blk_cell ST5.out 1
    have e2 := blk_cell ST5.out 2
    have e3 := blk_cell ST5.out 3
    have r0 := blk_cell RK5.out 0
    have r1 := blk_cell RK5.out 1
    have r2 := blk_cell RK5.out 2
    have r3 := blk_cell RK5.out 3
    have r4 := blk_cell RK5.out 4
    have r5 := blk_cell RK5.out 5
    have r6 := blk_cell RK5.out 6
    have r7 := blk_cell RK5.out 7
    have r8 := blk_cell RK5.out 8
    have q0 := blk_frozen RK5.out 0
    have q1 := blk_frozen RK5.out 1
    have q2 := blk_frozen RK5.out 2
    have q3 := blk_frozen RK5.out 3
    have q4 := blk_frozen RK5.out 4
    have q5 := blk_frozen RK5.out 5
    have q6 := blk_frozen RK5.out 6
    have q7 := blk_frozen RK5.out 7
    have q8 := blk_frozen RK5.out 8
    unfold gotV
    go_wp2_with fail
    refine bodyPost_ret (results_cell_row rfl _ _ (w.heap.size + 1) 32 _ (0, 0) _ rfl (blk_alloc (put9 RK5.out _ _ _ _ _ _ _ _ _) _) Try.underlying32 rfl (by kernel_rfl)) rfl ?_
    exact ⟨rfl, below_alloc (below9 HB5.out (Nat.le_succ _) _ _ _ _ _ _ _ _ _) _⟩
theorem rgetC {kind mode bits acc held e k s u m : Int} {A : Option Addr} {c : Nat} {l : List Int} (w : World) (hC : Kd.C (Kd.int .u8) w A l.length l) (hc : l.length ≤ c) (hb : ∀ x ∈ l, Byte x) (h : GW kind mode bits acc held l e k s u m) :
    Calls Try.prog 12 #[.int .i64 kind, stV mode bits acc held, .slice A l.length c] w fun en w' => en = .returned (gotV e k s u m) ∧ Below w.heap.size w w' := by
  cases h with
  | kind h => exact rget_kind kind mode bits acc held A c l w h
  | state n pairs marks low h hf => exact rget_state kind mode bits acc held n pairs marks low A c l w h hf
  | markB n pairs low h hf h0 hl hx =>
    subst h0
    obtain ⟨rfl, rfl, rfl⟩ := fit0 hf
    exact rget_markB kind _ pairs low A c l w h hf hC hc hb hl hx
  | markL n pairs low h hf h0 hl hx hy =>
    subst h0
    obtain ⟨rfl, rfl, rfl⟩ := fit0 hf
    exact rget_markL kind _ pairs low A c l w h hf hC hc hb hl hx hy
  | noMark n pairs low e k c u h hf h0 hl hx hy hg he =>
    subst h0
    obtain ⟨rfl, rfl, rfl⟩ := fit0 hf
    exact rget_noMark kind _ _ _ _ _ pairs low A _ l w h hf hC hc hb hl hx hy hg (neb he)
  | noMore n pairs low k c u h hf h0 hl hx hy hg =>
    subst h0
    obtain ⟨rfl, rfl, rfl⟩ := fit0 hf
    exact rget_noMore kind _ _ _ _ pairs low A _ l w h hf hC hc hb hl hx hy hg
  | few n pairs low h hf h0 hl =>
    subst h0
    obtain ⟨rfl, rfl, rfl⟩ := fit0 hf
    exact rget_few kind n pairs low A c l w h hf hl
  | plain n pairs marks low e k c u h hf hm hg he =>
    obtain ⟨rfl, rfl, rfl, h4⟩ := hf
    exact rget_plain kind mode n _ _ _ _ pairs marks low A _ l w h ⟨rfl, rfl, rfl, h4⟩ hm hC hc hb hg (neb he)
  | plainMore n pairs marks low k c u h hf hm hg =>
    obtain ⟨rfl, rfl, rfl, h4⟩ := hf
    exact rget_plainMore kind mode n _ _ _ pairs marks low A _ l w h ⟨rfl, rfl, rfl, h4⟩ hm hC hc hb hg
end Go.Proofs.Ytflmpdfcbdfabaa.Wd
