/- wide.Get, walked: the kinds without a mark, and behind one. -/
import Derived.Test.YtflmpdfcbdfabaaWh
namespace Go.Proofs.Ytflmpdfcbdfabaa.Wd
open Go.RowKit Go.Proofs.YtflmpdfcbdfabaaW.PrintWords Go.Proofs.YtflmpdfcbdfabaaW.PrintLast Go.Proofs.YtflmpdfcbdfabaaW.PrintMore
theorem sgetC {n e k s u : Int} {pairs marks low : Bool} {A : Option Addr} {c : Nat} {l : List Int} (w : World) (hC : Kd.C (Kd.int .u8) w A l.length l) (hc : l.length ≤ c) (hb : ∀ x ∈ l, Byte x) (hn : n = 2 ∨ n = 4) (hp : pairs = true → n = 2) (h : GP n pairs low l e k s u) :
    Calls Try.prog 29 #[shV n pairs marks low, .slice A l.length c] w fun en w' => en = .returned (gotV e k s u 0) ∧ Below w.heap.size w w' := by
  cases h with
  | short h => exact sget_short n pairs marks low A c l w hn h
  | sc h hs =>
    rcases hn with rfl | rfl <;> cases low
    · exact sget_sc_false2 pairs marks A c l w hC hc hb (by omega) hs
    · exact sget_sc_true2 pairs marks A c l w hC hc hb (by omega) hs
    · exact sget_sc_false4 pairs marks A c l w hC hc hb (by omega) hs
    · exact sget_sc_true4 pairs marks A c l w hC hc hb (by omega) hs
  | ill h hs hh =>
    rcases hn with rfl | rfl
    · have hxb := num_len hb low 2 (by omega)
      rcases hh with rfl | hh
      · cases low
        · exact sget_no_false2 marks A c l w hC hc hb (by omega) hs (by simp at hxb ⊢; omega)
        · exact sget_no_true2 marks A c l w hC hc hb (by omega) hs (by simp at hxb ⊢; omega)
      · cases pairs
        · cases low
          · exact sget_no_false2 marks A c l w hC hc hb (by omega) hs (by simp at hxb ⊢; omega)
          · exact sget_no_true2 marks A c l w hC hc hb (by omega) hs (by simp at hxb ⊢; omega)
        · cases low
          · exact sget_lone_false2 marks A c l w hC hc hb (by omega) hs hh
          · exact sget_lone_true2 marks A c l w hC hc hb (by omega) hs hh
    · obtain rfl : pairs = false := by
        cases pairs
        · rfl
        · exact absurd (hp rfl) (by decide)
      by_cases hx : num low (l.take 4) ≤ 1114111
      · cases low
        · exact sget_no_false4 marks A c l w hC hc hb (by omega) hs hx
        · exact sget_no_true4 marks A c l w hC hc hb (by omega) hs hx
      · cases low
        · exact sget_big_false4 marks A c l w hC hc hb (by omega) (Int.not_le.1 hx)
        · exact sget_big_true4 marks A c l w hC hc hb (by omega) (Int.not_le.1 hx)
  | short2 h2 h hpt hh h4 =>
    subst h2 hpt
    cases low
    · exact sget_few_false2 marks A c l w hC hc hb (by omega) h4 hh
    · exact sget_few_true2 marks A c l w hC hc hb (by omega) h4 hh
  | ill2 h2 hpt hh h4 hy =>
    subst h2 hpt
    cases low
    · exact sget_torn_false2 marks A c l w hC hc hb h4 hy hh
    · exact sget_torn_true2 marks A c l w hC hc hb h4 hy hh
  | pair h2 hpt hh h4 hy =>
    subst h2 hpt
    cases low
    · exact sget_pair_false2 marks A c l w hC hc hb h4 hy hh
    · exact sget_pair_true2 marks A c l w hC hc hb h4 hy hh
def fa (low : Bool) : Nat := if low then 36 else 34
def fb (low : Bool) : Nat := if low then 37 else 35
theorem shV_eq (n : Int) (pairs marks low : Bool) : shV n pairs marks low = .agg #[.int .i64 n, .bool pairs, .bool marks, .func (.func (fa low)) #[] #[], .func (.func (fb low)) #[] #[]] := by
  cases low <;> rfl
set_option maxHeartbeats 2000000 in
set_option maxRecDepth 100000 in
theorem get_kind (kind mode bits acc held : Int) (A : Option Addr) (m c : Nat) (w : World) (h : shp kind mode = none) :
    Calls Try.prog 11 #[.int .i64 kind, stV mode bits acc held, .slice A m c] w fun en w' => en = .returned (gotV 5 0 0 0 0) ∧ Below w.heap.size w w' := by
  have HK := Lib.hid h
  clear h
  unfold stV
  go_enter Try.func11, Try.ntmps11
  go_wp2_with fail
  refine (shapeC_not _ HK.out).mono ?_
  rintro e w1 ⟨rfl, hb1⟩
  rw [shV_eq]
  have ST0 : Hid (w1.heap[w.heap.size]? = some (.cells #[.int .i64 mode, .int .i64 bits, .int .u32 acc, .int .i32 held] 24 (0, 0))) := Lib.hid (blk_below (blk_alloc (heap_alloc_new _ _) _) hb1)
  have RK0 : Hid (w1.heap[w.heap.size + 1]? = some (.cells #[.int .i64 0, .int .i64 0, .int .i64 0, .int .i32 0, .int .i32 0, .int .i64 0, .int .i64 0, .int .u32 0, .int .i32 0] 32 (0, 0))) := Lib.hid (blk_below (blk_second _ _ _) hb1)
  have HB0 : Hid (Below w.heap.size w w1) := Lib.hid (on (below_alloc (below_alloc (Below.refl _ _) _) _) hb1)
  have hg0 : w.heap.size + 1 < w1.heap.size := blk_lt RK0.out
  clear hb1
  have r0 := blk_cell RK0.out 0
  have q0 := blk_frozen RK0.out 0
  have r1 := blk_cell RK0.out 1
  have q1 := blk_frozen RK0.out 1
  have r2 := blk_cell RK0.out 2
  have q2 := blk_frozen RK0.out 2
  have r3 := blk_cell RK0.out 3
  have q3 := blk_frozen RK0.out 3
  have r4 := blk_cell RK0.out 4
  have q4 := blk_frozen RK0.out 4
  have r5 := blk_cell RK0.out 5
  have q5 := blk_frozen RK0.out 5
  have r6 := blk_cell RK0.out 6
  have q6 := blk_frozen RK0.out 6
  have r7 := blk_cell RK0.out 7
  have q7 := blk_frozen RK0.out 7
  have r8 := blk_cell RK0.out 8
  have q8 := blk_frozen RK0.out 8
  go_wp2_with fail
  refine bodyPost_ret (results_cell_row rfl _ _ (w.heap.size + 1) 32 _ (0, 0) _ rfl (blk_alloc (put9 RK0.out _ _ _ _ _ _ _ _ _) _) Try.underlying32 rfl (by kernel_rfl)) rfl ?_
  exact ⟨rfl, below_alloc (below9 HB0.out (Nat.le_succ _) _ _ _ _ _ _ _ _ _) _⟩
set_option maxHeartbeats 2000000 in
set_option maxRecDepth 100000 in
theorem get_state (kind mode bits acc held n : Int) (pairs marks low : Bool) (A : Option Addr) (m c : Nat) (w : World) (hk : shp kind mode = some (n, pairs, marks, low)) (hf : ¬ Fit marks mode bits acc held) :
    Calls Try.prog 11 #[.int .i64 kind, stV mode bits acc held, .slice A m c] w fun en w' => en = .returned (gotV 7 0 0 0 0) ∧ Below w.heap.size w w' := by
  have HK := Lib.hid hk
  have HF := Lib.hid hf
  clear hk hf
  unfold stV
  go_enter Try.func11, Try.ntmps11
  go_wp2_with fail
  refine (shapeC _ HK.out).mono ?_
  rintro e w1 ⟨rfl, hb1⟩
  rw [shV_eq]
  have ST0 : Hid (w1.heap[w.heap.size]? = some (.cells #[.int .i64 mode, .int .i64 bits, .int .u32 acc, .int .i32 held] 24 (0, 0))) := Lib.hid (blk_below (blk_alloc (heap_alloc_new _ _) _) hb1)
  have RK0 : Hid (w1.heap[w.heap.size + 1]? = some (.cells #[.int .i64 0, .int .i64 0, .int .i64 0, .int .i32 0, .int .i32 0, .int .i64 0, .int .i64 0, .int .u32 0, .int .i32 0] 32 (0, 0))) := Lib.hid (blk_below (blk_second _ _ _) hb1)
  have HB0 : Hid (Below w.heap.size w w1) := Lib.hid (on (below_alloc (below_alloc (Below.refl _ _) _) _) hb1)
  have hg0 : w.heap.size + 1 < w1.heap.size := blk_lt RK0.out
  clear hb1
  have hg1 : w.heap.size < w1.heap.size := by omega
  have e0 := blk_cell ST0.out 0
  have e1 := blk_cell ST0.out 1
  have e2 := blk_cell ST0.out 2
  have e3 := blk_cell ST0.out 3
  go_wp2_with fail
  have hc := fitsC_not n mode bits acc held pairs marks low (w1.alloc (.cells #[.int .i64 n, .bool pairs, .bool marks, .func (.func (fa low)) #[] #[], .func (.func (fb low)) #[] #[]] 48)) HF.out
  rw [shV_eq] at hc
  unfold stV at hc
  refine hc.mono ?_
  clear hc
  rintro e w2 ⟨rfl, hb2⟩
  clear e0 e1 e2 e3
  have ST1 : Hid ((w2).heap[w.heap.size]? = some (.cells #[.int .i64 mode, .int .i64 bits, .int .u32 acc, .int .i32 held] 24 (0, 0))) := Lib.hid (blk_below (blk_alloc ST0.out _) hb2)
  have RK1 : Hid ((w2).heap[w.heap.size + 1]? = some (.cells #[.int .i64 0, .int .i64 0, .int .i64 0, .int .i32 0, .int .i32 0, .int .i64 0, .int .i64 0, .int .u32 0, .int .i32 0] 32 (0, 0))) := Lib.hid (blk_below (blk_alloc RK0.out _) hb2)
  have SK1 : Hid ((w2).heap[w1.heap.size]? = some (.cells #[.int .i64 n, .bool pairs, .bool marks, .func (.func (fa low)) #[] #[], .func (.func (fb low)) #[] #[]] 48 (0, 0))) := Lib.hid (blk_below (heap_alloc_new _ _) hb2)
  have HB1 : Hid (Below w.heap.size w (w2)) := Lib.hid (on (below_alloc HB0.out _) hb2)
  clear hb2
  have r0 := blk_cell RK1.out 0
  have r1 := blk_cell RK1.out 1
  have r2 := blk_cell RK1.out 2
  have r3 := blk_cell RK1.out 3
  have r4 := blk_cell RK1.out 4
  have r5 := blk_cell RK1.out 5
  have r6 := blk_cell RK1.out 6
  have r7 := blk_cell RK1.out 7
  have r8 := blk_cell RK1.out 8
  have q0 := blk_frozen RK1.out 0
  have q1 := blk_frozen RK1.out 1
  have q2 := blk_frozen RK1.out 2
  have q3 := blk_frozen RK1.out 3
  have q4 := blk_frozen RK1.out 4
  have q5 := blk_frozen RK1.out 5
  have q6 := blk_frozen RK1.out 6
  have q7 := blk_frozen RK1.out 7
  have q8 := blk_frozen RK1.out 8
  go_wp2_with fail
  refine bodyPost_ret (results_cell_row rfl _ _ (w.heap.size + 1) 32 _ (0, 0) _ rfl (put9 RK1.out _ _ _ _ _ _ _ _ _) Try.underlying32 rfl (by kernel_rfl)) rfl ?_
  exact ⟨rfl, below9 HB1.out (Nat.le_succ _) _ _ _ _ _ _ _ _ _⟩
set_option maxHeartbeats 2000000 in
set_option maxRecDepth 100000 in
theorem get_plain (kind mode n e k s u : Int) (pairs low : Bool) (A : Option Addr) (c : Nat) (l : List Int) (w : World) (hk : shp kind mode = some (n, pairs, false, low)) (hf : Fit false mode 0 0 0) (hC : Kd.C (Kd.int .u8) w A l.length l) (hc : l.length ≤ c) (hb : ∀ x ∈ l, Byte x) (hg : GP n pairs low l e k s u) (h2 : (e != 1) = true) :
    Calls Try.prog 11 #[.int .i64 kind, stV mode 0 0 0, .slice A l.length c] w fun en w' => en = .returned (gotV e k s u mode) ∧ Below w.heap.size w w' := by
  have HK := Lib.hid hk
  have HF := Lib.hid hf
  have HG := Lib.hid hg
  have HC := Lib.hid hC
  have Hc := Lib.hid hc
  have Hb := Lib.hid hb
  have Hn := Lib.hid (shp_ok hk)
  clear hk hf hg hC hc hb
  unfold stV
  go_enter Try.func11, Try.ntmps11
  go_wp2_with fail
  refine (shapeC _ HK.out).mono ?_
  rintro e w1 ⟨rfl, hb1⟩
  rw [shV_eq]
  have ST0 : Hid (w1.heap[w.heap.size]? = some (.cells #[.int .i64 mode, .int .i64 0, .int .u32 0, .int .i32 0] 24 (0, 0))) := Lib.hid (blk_below (blk_alloc (heap_alloc_new _ _) _) hb1)
  have RK0 : Hid (w1.heap[w.heap.size + 1]? = some (.cells #[.int .i64 0, .int .i64 0, .int .i64 0, .int .i32 0, .int .i32 0, .int .i64 0, .int .i64 0, .int .u32 0, .int .i32 0] 32 (0, 0))) := Lib.hid (blk_below (blk_second _ _ _) hb1)
  have HB0 : Hid (Below w.heap.size w w1) := Lib.hid (on (below_alloc (below_alloc (Below.refl _ _) _) _) hb1)
  have hg0 : w.heap.size + 1 < w1.heap.size := blk_lt RK0.out
  clear hb1
  have hg1 : w.heap.size < w1.heap.size := by omega
  have e0 := blk_cell ST0.out 0
  have e1 := blk_cell ST0.out 1
  have e2 := blk_cell ST0.out 2
  have e3 := blk_cell ST0.out 3
  go_wp2_with fail
  have hc := fitsC n mode 0 0 0 pairs false low (w1.alloc (.cells #[.int .i64 n, .bool pairs, .bool false, .func (.func (fa low)) #[] #[], .func (.func (fb low)) #[] #[]] 48)) HF.out
  rw [shV_eq] at hc
  unfold stV at hc
  refine hc.mono ?_
  clear hc
  rintro e w2 ⟨rfl, hb2⟩
  clear e0 e1 e2 e3
  have ST1 : Hid ((w2).heap[w.heap.size]? = some (.cells #[.int .i64 mode, .int .i64 0, .int .u32 0, .int .i32 0] 24 (0, 0))) := Lib.hid (blk_below (blk_alloc ST0.out _) hb2)
  have RK1 : Hid ((w2).heap[w.heap.size + 1]? = some (.cells #[.int .i64 0, .int .i64 0, .int .i64 0, .int .i32 0, .int .i32 0, .int .i64 0, .int .i64 0, .int .u32 0, .int .i32 0] 32 (0, 0))) := Lib.hid (blk_below (blk_alloc RK0.out _) hb2)
  have SK1 : Hid ((w2).heap[w1.heap.size]? = some (.cells #[.int .i64 n, .bool pairs, .bool false, .func (.func (fa low)) #[] #[], .func (.func (fb low)) #[] #[]] 48 (0, 0))) := Lib.hid (blk_below (heap_alloc_new _ _) hb2)
  have HB1 : Hid (Below w.heap.size w (w2)) := Lib.hid (on (below_alloc HB0.out _) hb2)
  clear hb2
  have e0 := blk_cell ST1.out 0
  have e1 := blk_cell ST1.out 1
  have e2 := blk_cell ST1.out 2
  have e3 := blk_cell ST1.out 3
  have s0 := blk_cell SK1.out 0
  have s1 := blk_cell SK1.out 1
  have s2 := blk_cell SK1.out 2
  have s3 := blk_cell SK1.out 3
  have s4 := blk_cell SK1.out 4
  have hg2 : w1.heap.size < w2.heap.size := blk_lt SK1.out
  go_wp2_with fail
  have hc := sgetC (marks := false) (low := low) w2 (Kd.C_below HC.out HB1.out) Hc.out Hb.out Hn.out.1 Hn.out.2 HG.out
  rw [shV_eq] at hc
  refine hc.mono ?_
  clear hc
  rintro en w3 ⟨rfl, hb3⟩
  clear e0 e1 e2 e3 s0 s1 s2 s3 s4
  have ST2 : Hid ((w3).heap[w.heap.size]? = some (.cells #[.int .i64 mode, .int .i64 0, .int .u32 0, .int .i32 0] 24 (0, 0))) := Lib.hid (blk_below ST1.out hb3)
  have RK2 : Hid ((w3).heap[w.heap.size + 1]? = some (.cells #[.int .i64 0, .int .i64 0, .int .i64 0, .int .i32 0, .int .i32 0, .int .i64 0, .int .i64 0, .int .u32 0, .int .i32 0] 32 (0, 0))) := Lib.hid (blk_below RK1.out hb3)
  have SK2 : Hid ((w3).heap[w1.heap.size]? = some (.cells #[.int .i64 n, .bool pairs, .bool false, .func (.func (fa low)) #[] #[], .func (.func (fb low)) #[] #[]] 48 (0, 0))) := Lib.hid (blk_below SK1.out hb3)
  have HB2 : Hid (Below w.heap.size w (w3)) := Lib.hid (on HB1.out hb3)
  clear ST1 RK1 SK1 HB1
  clear hb3
  have hg3 : w1.heap.size < w3.heap.size := blk_lt SK2.out
  have hg4 : w.heap.size + 1 < w3.heap.size := by omega
  have hg5 : w.heap.size < w3.heap.size := by omega
  have e0 := blk_cell ST2.out 0
  have e1 := blk_cell ST2.out 1
  have e2 := blk_cell ST2.out 2
  have e3 := blk_cell ST2.out 3
  have r0 := blk_cell RK2.out 0
  have r1 := blk_cell RK2.out 1
  have r2 := blk_cell RK2.out 2
  have r3 := blk_cell RK2.out 3
  have r4 := blk_cell RK2.out 4
  have r5 := blk_cell RK2.out 5
  have r6 := blk_cell RK2.out 6
  have r7 := blk_cell RK2.out 7
  have r8 := blk_cell RK2.out 8
  have q0 := blk_frozen RK2.out 0
  have q1 := blk_frozen RK2.out 1
  have q2 := blk_frozen RK2.out 2
  have q3 := blk_frozen RK2.out 3
  have q4 := blk_frozen RK2.out 4
  have q5 := blk_frozen RK2.out 5
  have q6 := blk_frozen RK2.out 6
  have q7 := blk_frozen RK2.out 7
  have q8 := blk_frozen RK2.out 8
  unfold gotV
  go_wp2_with fail
  refine bodyPost_ret (results_cell_row rfl _ _ (w.heap.size + 1) 32 _ (0, 0) _ rfl (blk_alloc (put9 RK2.out _ _ _ _ _ _ _ _ _) _) Try.underlying32 rfl (by kernel_rfl)) rfl ?_
  exact ⟨rfl, below_alloc (below9 HB2.out (Nat.le_succ _) _ _ _ _ _ _ _ _ _) _⟩
set_option maxHeartbeats 2000000 in
set_option maxRecDepth 100000 in
theorem get_more (kind mode n k s u : Int) (pairs low : Bool) (A : Option Addr) (c : Nat) (l : List Int) (w : World) (hk : shp kind mode = some (n, pairs, false, low)) (hf : Fit false mode 0 0 0) (hC : Kd.C (Kd.int .u8) w A l.length l) (hc : l.length ≤ c) (hb : ∀ x ∈ l, Byte x) (hg : GP n pairs low l 1 k s u) :
    Calls Try.prog 11 #[.int .i64 kind, stV mode 0 0 0, .slice A l.length c] w fun en w' => en = .returned (gotV 1 k s u 0) ∧ Below w.heap.size w w' := by
  have HK := Lib.hid hk
  have HF := Lib.hid hf
  have HG := Lib.hid hg
  have HC := Lib.hid hC
  have Hc := Lib.hid hc
  have Hb := Lib.hid hb
  have Hn := Lib.hid (shp_ok hk)
  clear hk hf hg hC hc hb
  unfold stV
  go_enter Try.func11, Try.ntmps11
  go_wp2_with fail
  refine (shapeC _ HK.out).mono ?_
  rintro e w1 ⟨rfl, hb1⟩
  rw [shV_eq]
  have ST0 : Hid (w1.heap[w.heap.size]? = some (.cells #[.int .i64 mode, .int .i64 0, .int .u32 0, .int .i32 0] 24 (0, 0))) := Lib.hid (blk_below (blk_alloc (heap_alloc_new _ _) _) hb1)
  have RK0 : Hid (w1.heap[w.heap.size + 1]? = some (.cells #[.int .i64 0, .int .i64 0, .int .i64 0, .int .i32 0, .int .i32 0, .int .i64 0, .int .i64 0, .int .u32 0, .int .i32 0] 32 (0, 0))) := Lib.hid (blk_below (blk_second _ _ _) hb1)
  have HB0 : Hid (Below w.heap.size w w1) := Lib.hid (on (below_alloc (below_alloc (Below.refl _ _) _) _) hb1)
  have hg0 : w.heap.size + 1 < w1.heap.size := blk_lt RK0.out
  clear hb1
  have hg1 : w.heap.size < w1.heap.size := by omega
  have e0 := blk_cell ST0.out 0
  have e1 := blk_cell ST0.out 1
  have e2 := blk_cell ST0.out 2
  have e3 := blk_cell ST0.out 3
  go_wp2_with fail
  have hc := fitsC n mode 0 0 0 pairs false low (w1.alloc (.cells #[.int .i64 n, .bool pairs, .bool false, .func (.func (fa low)) #[] #[], .func (.func (fb low)) #[] #[]] 48)) HF.out
  rw [shV_eq] at hc
  unfold stV at hc
  refine hc.mono ?_
  clear hc
  rintro e w2 ⟨rfl, hb2⟩
  clear e0 e1 e2 e3
  have ST1 : Hid ((w2).heap[w.heap.size]? = some (.cells #[.int .i64 mode, .int .i64 0, .int .u32 0, .int .i32 0] 24 (0, 0))) := Lib.hid (blk_below (blk_alloc ST0.out _) hb2)
  have RK1 : Hid ((w2).heap[w.heap.size + 1]? = some (.cells #[.int .i64 0, .int .i64 0, .int .i64 0, .int .i32 0, .int .i32 0, .int .i64 0, .int .i64 0, .int .u32 0, .int .i32 0] 32 (0, 0))) := Lib.hid (blk_below (blk_alloc RK0.out _) hb2)
  have SK1 : Hid ((w2).heap[w1.heap.size]? = some (.cells #[.int .i64 n, .bool pairs, .bool false, .func (.func (fa low)) #[] #[], .func (.func (fb low)) #[] #[]] 48 (0, 0))) := Lib.hid (blk_below (heap_alloc_new _ _) hb2)
  have HB1 : Hid (Below w.heap.size w (w2)) := Lib.hid (on (below_alloc HB0.out _) hb2)
  clear hb2
  have e0 := blk_cell ST1.out 0
  have e1 := blk_cell ST1.out 1
  have e2 := blk_cell ST1.out 2
  have e3 := blk_cell ST1.out 3
  have s0 := blk_cell SK1.out 0
  have s1 := blk_cell SK1.out 1
  have s2 := blk_cell SK1.out 2
  have s3 := blk_cell SK1.out 3
  have s4 := blk_cell SK1.out 4
  have hg2 : w1.heap.size < w2.heap.size := blk_lt SK1.out
  go_wp2_with fail
  have hc := sgetC (marks := false) (low := low) w2 (Kd.C_below HC.out HB1.out) Hc.out Hb.out Hn.out.1 Hn.out.2 HG.out
  rw [shV_eq] at hc
  refine hc.mono ?_
  clear hc
  rintro en w3 ⟨rfl, hb3⟩
  clear e0 e1 e2 e3 s0 s1 s2 s3 s4
  have ST2 : Hid ((w3).heap[w.heap.size]? = some (.cells #[.int .i64 mode, .int .i64 0, .int .u32 0, .int .i32 0] 24 (0, 0))) := Lib.hid (blk_below ST1.out hb3)
  have RK2 : Hid ((w3).heap[w.heap.size + 1]? = some (.cells #[.int .i64 0, .int .i64 0, .int .i64 0, .int .i32 0, .int .i32 0, .int .i64 0, .int .i64 0, .int .u32 0, .int .i32 0] 32 (0, 0))) := Lib.hid (blk_below RK1.out hb3)
  have SK2 : Hid ((w3).heap[w1.heap.size]? = some (.cells #[.int .i64 n, .bool pairs, .bool false, .func (.func (fa low)) #[] #[], .func (.func (fb low)) #[] #[]] 48 (0, 0))) := Lib.hid (blk_below SK1.out hb3)
  have HB2 : Hid (Below w.heap.size w (w3)) := Lib.hid (on HB1.out hb3)
  clear ST1 RK1 SK1 HB1
  clear hb3
  have hg3 : w1.heap.size < w3.heap.size := blk_lt SK2.out
  have hg4 : w.heap.size + 1 < w3.heap.size := by omega
  have hg5 : w.heap.size < w3.heap.size := by omega
  have e0 := blk_cell ST2.out 0
  have e1 := blk_cell ST2.out 1
  have e2 := blk_cell ST2.out 2
  have e3 := blk_cell ST2.out 3
  have r0 := blk_cell RK2.out 0
  have r1 := blk_cell RK2.out 1
  have r2 := blk_cell RK2.out 2
  have r3 := blk_cell RK2.out 3
  have r4 := blk_cell RK2.out 4
  have r5 := blk_cell RK2.out 5
  have r6 := blk_cell RK2.out 6
  have r7 := blk_cell RK2.out 7
  have r8 := blk_cell RK2.out 8
  have q0 := blk_frozen RK2.out 0
  have q1 := blk_frozen RK2.out 1
  have q2 := blk_frozen RK2.out 2
  have q3 := blk_frozen RK2.out 3
  have q4 := blk_frozen RK2.out 4
  have q5 := blk_frozen RK2.out 5
  have q6 := blk_frozen RK2.out 6
  have q7 := blk_frozen RK2.out 7
  have q8 := blk_frozen RK2.out 8
  unfold gotV
  go_wp2_with fail
  refine bodyPost_ret (results_cell_row rfl _ _ (w.heap.size + 1) 32 _ (0, 0) _ rfl (blk_alloc (put9 RK2.out _ _ _ _ _ _ _ _ _) _) Try.underlying32 rfl (by kernel_rfl)) rfl ?_
  exact ⟨rfl, below_alloc (below9 HB2.out (Nat.le_succ _) _ _ _ _ _ _ _ _ _) _⟩
set_option maxHeartbeats 2000000 in
set_option maxRecDepth 100000 in
theorem get_behind (kind mode n e k s u : Int) (pairs low : Bool) (A : Option Addr) (c : Nat) (l : List Int) (w : World) (hk : shp kind mode = some (n, pairs, true, low)) (hf : Fit true mode 0 0 0) (hm : (mode == 0) = false) (hC : Kd.C (Kd.int .u8) w A l.length l) (hc : l.length ≤ c) (hb : ∀ x ∈ l, Byte x) (hg : GP n pairs low l e k s u) (h2 : (e != 1) = true) :
    Calls Try.prog 11 #[.int .i64 kind, stV mode 0 0 0, .slice A l.length c] w fun en w' => en = .returned (gotV e k s u mode) ∧ Below w.heap.size w w' := by
  have HK := Lib.hid hk
  have HF := Lib.hid hf
  have HG := Lib.hid hg
  have HC := Lib.hid hC
  have Hc := Lib.hid hc
  have Hb := Lib.hid hb
  have Hn := Lib.hid (shp_ok hk)
  clear hk hf hg hC hc hb
  unfold stV
  go_enter Try.func11, Try.ntmps11
  go_wp2_with fail
  refine (shapeC _ HK.out).mono ?_
  rintro e w1 ⟨rfl, hb1⟩
  rw [shV_eq]
  have ST0 : Hid (w1.heap[w.heap.size]? = some (.cells #[.int .i64 mode, .int .i64 0, .int .u32 0, .int .i32 0] 24 (0, 0))) := Lib.hid (blk_below (blk_alloc (heap_alloc_new _ _) _) hb1)
  have RK0 : Hid (w1.heap[w.heap.size + 1]? = some (.cells #[.int .i64 0, .int .i64 0, .int .i64 0, .int .i32 0, .int .i32 0, .int .i64 0, .int .i64 0, .int .u32 0, .int .i32 0] 32 (0, 0))) := Lib.hid (blk_below (blk_second _ _ _) hb1)
  have HB0 : Hid (Below w.heap.size w w1) := Lib.hid (on (below_alloc (below_alloc (Below.refl _ _) _) _) hb1)
  have hg0 : w.heap.size + 1 < w1.heap.size := blk_lt RK0.out
  clear hb1
  have hg1 : w.heap.size < w1.heap.size := by omega
  have e0 := blk_cell ST0.out 0
  have e1 := blk_cell ST0.out 1
  have e2 := blk_cell ST0.out 2
  have e3 := blk_cell ST0.out 3
  go_wp2_with fail
  have hc := fitsC n mode 0 0 0 pairs true low (w1.alloc (.cells #[.int .i64 n, .bool pairs, .bool true, .func (.func (fa low)) #[] #[], .func (.func (fb low)) #[] #[]] 48)) HF.out
  rw [shV_eq] at hc
  unfold stV at hc
  refine hc.mono ?_
  clear hc
  rintro e w2 ⟨rfl, hb2⟩
  clear e0 e1 e2 e3
  have ST1 : Hid ((w2).heap[w.heap.size]? = some (.cells #[.int .i64 mode, .int .i64 0, .int .u32 0, .int .i32 0] 24 (0, 0))) := Lib.hid (blk_below (blk_alloc ST0.out _) hb2)
  have RK1 : Hid ((w2).heap[w.heap.size + 1]? = some (.cells #[.int .i64 0, .int .i64 0, .int .i64 0, .int .i32 0, .int .i32 0, .int .i64 0, .int .i64 0, .int .u32 0, .int .i32 0] 32 (0, 0))) := Lib.hid (blk_below (blk_alloc RK0.out _) hb2)
  have SK1 : Hid ((w2).heap[w1.heap.size]? = some (.cells #[.int .i64 n, .bool pairs, .bool true, .func (.func (fa low)) #[] #[], .func (.func (fb low)) #[] #[]] 48 (0, 0))) := Lib.hid (blk_below (heap_alloc_new _ _) hb2)
  have HB1 : Hid (Below w.heap.size w (w2)) := Lib.hid (on (below_alloc HB0.out _) hb2)
  clear hb2
  have e0 := blk_cell ST1.out 0
  have e1 := blk_cell ST1.out 1
  have e2 := blk_cell ST1.out 2
  have e3 := blk_cell ST1.out 3
  have s0 := blk_cell SK1.out 0
  have s1 := blk_cell SK1.out 1
  have s2 := blk_cell SK1.out 2
  have s3 := blk_cell SK1.out 3
  have s4 := blk_cell SK1.out 4
  have hg2 : w1.heap.size < w2.heap.size := blk_lt SK1.out
  go_wp2_with fail
  have hc := sgetC (marks := true) (low := low) w2 (Kd.C_below HC.out HB1.out) Hc.out Hb.out Hn.out.1 Hn.out.2 HG.out
  rw [shV_eq] at hc
  refine hc.mono ?_
  clear hc
  rintro en w3 ⟨rfl, hb3⟩
  clear e0 e1 e2 e3 s0 s1 s2 s3 s4
  have ST2 : Hid ((w3).heap[w.heap.size]? = some (.cells #[.int .i64 mode, .int .i64 0, .int .u32 0, .int .i32 0] 24 (0, 0))) := Lib.hid (blk_below ST1.out hb3)
  have RK2 : Hid ((w3).heap[w.heap.size + 1]? = some (.cells #[.int .i64 0, .int .i64 0, .int .i64 0, .int .i32 0, .int .i32 0, .int .i64 0, .int .i64 0, .int .u32 0, .int .i32 0] 32 (0, 0))) := Lib.hid (blk_below RK1.out hb3)
  have SK2 : Hid ((w3).heap[w1.heap.size]? = some (.cells #[.int .i64 n, .bool pairs, .bool true, .func (.func (fa low)) #[] #[], .func (.func (fb low)) #[] #[]] 48 (0, 0))) := Lib.hid (blk_below SK1.out hb3)
  have HB2 : Hid (Below w.heap.size w (w3)) := Lib.hid (on HB1.out hb3)
  clear ST1 RK1 SK1 HB1
  clear hb3
  have hg3 : w1.heap.size < w3.heap.size := blk_lt SK2.out
  have hg4 : w.heap.size + 1 < w3.heap.size := by omega
  have hg5 : w.heap.size < w3.heap.size := by omega
  have e0 := blk_cell ST2.out 0
  have e1 := blk_cell ST2.out 1
  have e2 := blk_cell ST2.out 2
  have e3 := blk_cell ST2.out 3
  have r0 := blk_cell RK2.out 0
  have r1 := blk_cell RK2.out 1
  have r2 := blk_cell RK2.out 2
  have r3 := blk_cell RK2.out 3
  have r4 := blk_cell RK2.out 4
  have r5 := blk_cell RK2.out 5
  have r6 := blk_cell RK2.out 6
  have r7 := blk_cell RK2.out 7
  have r8 := blk_cell RK2.out 8
  have q0 := blk_frozen RK2.out 0
  have q1 := blk_frozen RK2.out 1
  have q2 := blk_frozen RK2.out 2
  have q3 := blk_frozen RK2.out 3
  have q4 := blk_frozen RK2.out 4
  have q5 := blk_frozen RK2.out 5
  have q6 := blk_frozen RK2.out 6
  have q7 := blk_frozen RK2.out 7
  have q8 := blk_frozen RK2.out 8
  unfold gotV
  go_wp2_with fail
  refine bodyPost_ret (results_cell_row rfl _ _ (w.heap.size + 1) 32 _ (0, 0) _ rfl (blk_alloc (put9 RK2.out _ _ _ _ _ _ _ _ _) _) Try.underlying32 rfl (by kernel_rfl)) rfl ?_
  exact ⟨rfl, below_alloc (below9 HB2.out (Nat.le_succ _) _ _ _ _ _ _ _ _ _) _⟩
set_option maxHeartbeats 2000000 in
set_option maxRecDepth 100000 in
theorem get_behind_more (kind mode n k s u : Int) (pairs low : Bool) (A : Option Addr) (c : Nat) (l : List Int) (w : World) (hk : shp kind mode = some (n, pairs, true, low)) (hf : Fit true mode 0 0 0) (hm : (mode == 0) = false) (hC : Kd.C (Kd.int .u8) w A l.length l) (hc : l.length ≤ c) (hb : ∀ x ∈ l, Byte x) (hg : GP n pairs low l 1 k s u) :
    Calls Try.prog 11 #[.int .i64 kind, stV mode 0 0 0, .slice A l.length c] w fun en w' => en = .returned (gotV 1 k s u 0) ∧ Below w.heap.size w w' := by
  have HK := Lib.hid hk
  have HF := Lib.hid hf
  have HG := Lib.hid hg
  have HC := Lib.hid hC
  have Hc := Lib.hid hc
  have Hb := Lib.hid hb
  have Hn := Lib.hid (shp_ok hk)
  clear hk hf hg hC hc hb
  unfold stV
  go_enter Try.func11, Try.ntmps11
  go_wp2_with fail
  refine (shapeC _ HK.out).mono ?_
  rintro e w1 ⟨rfl, hb1⟩
  rw [shV_eq]
  have ST0 : Hid (w1.heap[w.heap.size]? = some (.cells #[.int .i64 mode, .int .i64 0, .int .u32 0, .int .i32 0] 24 (0, 0))) := Lib.hid (blk_below (blk_alloc (heap_alloc_new _ _) _) hb1)
  have RK0 : Hid (w1.heap[w.heap.size + 1]? = some (.cells #[.int .i64 0, .int .i64 0, .int .i64 0, .int .i32 0, .int .i32 0, .int .i64 0, .int .i64 0, .int .u32 0, .int .i32 0] 32 (0, 0))) := Lib.hid (blk_below (blk_second _ _ _) hb1)
  have HB0 : Hid (Below w.heap.size w w1) := Lib.hid (on (below_alloc (below_alloc (Below.refl _ _) _) _) hb1)
  have hg0 : w.heap.size + 1 < w1.heap.size := blk_lt RK0.out
  clear hb1
  have hg1 : w.heap.size < w1.heap.size := by omega
  have e0 := blk_cell ST0.out 0
  have e1 := blk_cell ST0.out 1
  have e2 := blk_cell ST0.out 2
  have e3 := blk_cell ST0.out 3
  go_wp2_with fail
  have hc := fitsC n mode 0 0 0 pairs true low (w1.alloc (.cells #[.int .i64 n, .bool pairs, .bool true, .func (.func (fa low)) #[] #[], .func (.func (fb low)) #[] #[]] 48)) HF.out
  rw [shV_eq] at hc
  unfold stV at hc
  refine hc.mono ?_
  clear hc
  rintro e w2 ⟨rfl, hb2⟩
  clear e0 e1 e2 e3
  have ST1 : Hid ((w2).heap[w.heap.size]? = some (.cells #[.int .i64 mode, .int .i64 0, .int .u32 0, .int .i32 0] 24 (0, 0))) := Lib.hid (blk_below (blk_alloc ST0.out _) hb2)
  have RK1 : Hid ((w2).heap[w.heap.size + 1]? = some (.cells #[.int .i64 0, .int .i64 0, .int .i64 0, .int .i32 0, .int .i32 0, .int .i64 0, .int .i64 0, .int .u32 0, .int .i32 0] 32 (0, 0))) := Lib.hid (blk_below (blk_alloc RK0.out _) hb2)
  have SK1 : Hid ((w2).heap[w1.heap.size]? = some (.cells #[.int .i64 n, .bool pairs, .bool true, .func (.func (fa low)) #[] #[], .func (.func (fb low)) #[] #[]] 48 (0, 0))) := Lib.hid (blk_below (heap_alloc_new _ _) hb2)
  have HB1 : Hid (Below w.heap.size w (w2)) := Lib.hid (on (below_alloc HB0.out _) hb2)
  clear hb2
  have e0 := blk_cell ST1.out 0
  have e1 := blk_cell ST1.out 1
  have e2 := blk_cell ST1.out 2
  have e3 := blk_cell ST1.out 3
  have s0 := blk_cell SK1.out 0
  have s1 := blk_cell SK1.out 1
  have s2 := blk_cell SK1.out 2
  have s3 := blk_cell SK1.out 3
  have s4 := blk_cell SK1.out 4
  have hg2 : w1.heap.size < w2.heap.size := blk_lt SK1.out
  go_wp2_with fail
  have hc := sgetC (marks := true) (low := low) w2 (Kd.C_below HC.out HB1.out) Hc.out Hb.out Hn.out.1 Hn.out.2 HG.out
  rw [shV_eq] at hc
  refine hc.mono ?_
  clear hc
  rintro en w3 ⟨rfl, hb3⟩
  clear e0 e1 e2 e3 s0 s1 s2 s3 s4
  have ST2 : Hid ((w3).heap[w.heap.size]? = some (.cells #[.int .i64 mode, .int .i64 0, .int .u32 0, .int .i32 0] 24 (0, 0))) := Lib.hid (blk_below ST1.out hb3)
  have RK2 : Hid ((w3).heap[w.heap.size + 1]? = some (.cells #[.int .i64 0, .int .i64 0, .int .i64 0, .int .i32 0, .int .i32 0, .int .i64 0, .int .i64 0, .int .u32 0, .int .i32 0] 32 (0, 0))) := Lib.hid (blk_below RK1.out hb3)
  have SK2 : Hid ((w3).heap[w1.heap.size]? = some (.cells #[.int .i64 n, .bool pairs, .bool true, .func (.func (fa low)) #[] #[], .func (.func (fb low)) #[] #[]] 48 (0, 0))) := Lib.hid (blk_below SK1.out hb3)
  have HB2 : Hid (Below w.heap.size w (w3)) := Lib.hid (on HB1.out hb3)
  clear ST1 RK1 SK1 HB1
  clear hb3
  have hg3 : w1.heap.size < w3.heap.size := blk_lt SK2.out
  have hg4 : w.heap.size + 1 < w3.heap.size := by omega
  have hg5 : w.heap.size < w3.heap.size := by omega
  have e0 := blk_cell ST2.out 0
  have e1 := blk_cell ST2.out 1
  have e2 := blk_cell ST2.out 2
  have e3 := blk_cell ST2.out 3
  have r0 := blk_cell RK2.out 0
  have r1 := blk_cell RK2.out 1
  have r2 := blk_cell RK2.out 2
  have r3 := blk_cell RK2.out 3
  have r4 := blk_cell RK2.out 4
  have r5 := blk_cell RK2.out 5
  have r6 := blk_cell RK2.out 6
  have r7 := blk_cell RK2.out 7
  have r8 := blk_cell RK2.out 8
  have q0 := blk_frozen RK2.out 0
  have q1 := blk_frozen RK2.out 1
  have q2 := blk_frozen RK2.out 2
  have q3 := blk_frozen RK2.out 3
  have q4 := blk_frozen RK2.out 4
  have q5 := blk_frozen RK2.out 5
  have q6 := blk_frozen RK2.out 6
  have q7 := blk_frozen RK2.out 7
  have q8 := blk_frozen RK2.out 8
  unfold gotV
  go_wp2_with fail
  refine bodyPost_ret (results_cell_row rfl _ _ (w.heap.size + 1) 32 _ (0, 0) _ rfl (blk_alloc (put9 RK2.out _ _ _ _ _ _ _ _ _) _) Try.underlying32 rfl (by kernel_rfl)) rfl ?_
  exact ⟨rfl, below_alloc (below9 HB2.out (Nat.le_succ _) _ _ _ _ _ _ _ _ _) _⟩
set_option maxHeartbeats 2000000 in
set_option maxRecDepth 100000 in
theorem get_few (kind n k s u : Int) (pairs low : Bool) (A : Option Addr) (c : Nat) (l : List Int) (w : World) (hk : shp kind 0 = some (n, pairs, true, low)) (hf : Fit true 0 0 0 0) (hl : (l.length : Int) < n) (hC : Kd.C (Kd.int .u8) w A l.length l) (hc : l.length ≤ c) (hb : ∀ x ∈ l, Byte x) (hg : GP n pairs low l 1 k s u) :
    Calls Try.prog 11 #[.int .i64 kind, stV 0 0 0 0, .slice A l.length c] w fun en w' => en = .returned (gotV 1 k s u 0) ∧ Below w.heap.size w w' := by
  have HK := Lib.hid hk
  have HF := Lib.hid hf
  have HG := Lib.hid hg
  have HC := Lib.hid hC
  have Hc := Lib.hid hc
  have Hb := Lib.hid hb
  have Hn := Lib.hid (shp_ok hk)
  clear hk hf hg hC hc hb
  unfold stV
  go_enter Try.func11, Try.ntmps11
  go_wp2_with fail
  refine (shapeC _ HK.out).mono ?_
  rintro e w1 ⟨rfl, hb1⟩
  rw [shV_eq]
  have ST0 : Hid (w1.heap[w.heap.size]? = some (.cells #[.int .i64 0, .int .i64 0, .int .u32 0, .int .i32 0] 24 (0, 0))) := Lib.hid (blk_below (blk_alloc (heap_alloc_new _ _) _) hb1)
  have RK0 : Hid (w1.heap[w.heap.size + 1]? = some (.cells #[.int .i64 0, .int .i64 0, .int .i64 0, .int .i32 0, .int .i32 0, .int .i64 0, .int .i64 0, .int .u32 0, .int .i32 0] 32 (0, 0))) := Lib.hid (blk_below (blk_second _ _ _) hb1)
  have HB0 : Hid (Below w.heap.size w w1) := Lib.hid (on (below_alloc (below_alloc (Below.refl _ _) _) _) hb1)
  have hg0 : w.heap.size + 1 < w1.heap.size := blk_lt RK0.out
  clear hb1
  have hg1 : w.heap.size < w1.heap.size := by omega
  have e0 := blk_cell ST0.out 0
  have e1 := blk_cell ST0.out 1
  have e2 := blk_cell ST0.out 2
  have e3 := blk_cell ST0.out 3
  go_wp2_with fail
  have hc := fitsC n 0 0 0 0 pairs true low (w1.alloc (.cells #[.int .i64 n, .bool pairs, .bool true, .func (.func (fa low)) #[] #[], .func (.func (fb low)) #[] #[]] 48)) HF.out
  rw [shV_eq] at hc
  unfold stV at hc
  refine hc.mono ?_
  clear hc
  rintro e w2 ⟨rfl, hb2⟩
  clear e0 e1 e2 e3
  have ST1 : Hid ((w2).heap[w.heap.size]? = some (.cells #[.int .i64 0, .int .i64 0, .int .u32 0, .int .i32 0] 24 (0, 0))) := Lib.hid (blk_below (blk_alloc ST0.out _) hb2)
  have RK1 : Hid ((w2).heap[w.heap.size + 1]? = some (.cells #[.int .i64 0, .int .i64 0, .int .i64 0, .int .i32 0, .int .i32 0, .int .i64 0, .int .i64 0, .int .u32 0, .int .i32 0] 32 (0, 0))) := Lib.hid (blk_below (blk_alloc RK0.out _) hb2)
  have SK1 : Hid ((w2).heap[w1.heap.size]? = some (.cells #[.int .i64 n, .bool pairs, .bool true, .func (.func (fa low)) #[] #[], .func (.func (fb low)) #[] #[]] 48 (0, 0))) := Lib.hid (blk_below (heap_alloc_new _ _) hb2)
  have HB1 : Hid (Below w.heap.size w (w2)) := Lib.hid (on (below_alloc HB0.out _) hb2)
  clear hb2
  have e0 := blk_cell ST1.out 0
  have e1 := blk_cell ST1.out 1
  have e2 := blk_cell ST1.out 2
  have e3 := blk_cell ST1.out 3
  have s0 := blk_cell SK1.out 0
  have s1 := blk_cell SK1.out 1
  have s2 := blk_cell SK1.out 2
  have s3 := blk_cell SK1.out 3
  have s4 := blk_cell SK1.out 4
  have hg2 : w1.heap.size < w2.heap.size := blk_lt SK1.out
  go_wp2_with fail
  have hc := sgetC (marks := true) (low := low) w2 (Kd.C_below HC.out HB1.out) Hc.out Hb.out Hn.out.1 Hn.out.2 HG.out
  rw [shV_eq] at hc
  refine hc.mono ?_
  clear hc
  rintro en w3 ⟨rfl, hb3⟩
  clear e0 e1 e2 e3 s0 s1 s2 s3 s4
  have ST2 : Hid ((w3).heap[w.heap.size]? = some (.cells #[.int .i64 0, .int .i64 0, .int .u32 0, .int .i32 0] 24 (0, 0))) := Lib.hid (blk_below ST1.out hb3)
  have RK2 : Hid ((w3).heap[w.heap.size + 1]? = some (.cells #[.int .i64 0, .int .i64 0, .int .i64 0, .int .i32 0, .int .i32 0, .int .i64 0, .int .i64 0, .int .u32 0, .int .i32 0] 32 (0, 0))) := Lib.hid (blk_below RK1.out hb3)
  have SK2 : Hid ((w3).heap[w1.heap.size]? = some (.cells #[.int .i64 n, .bool pairs, .bool true, .func (.func (fa low)) #[] #[], .func (.func (fb low)) #[] #[]] 48 (0, 0))) := Lib.hid (blk_below SK1.out hb3)
  have HB2 : Hid (Below w.heap.size w (w3)) := Lib.hid (on HB1.out hb3)
  clear ST1 RK1 SK1 HB1
  clear hb3
  have hg3 : w1.heap.size < w3.heap.size := blk_lt SK2.out
  have hg4 : w.heap.size + 1 < w3.heap.size := by omega
  have hg5 : w.heap.size < w3.heap.size := by omega
  have e0 := blk_cell ST2.out 0
  have e1 := blk_cell ST2.out 1
  have e2 := blk_cell ST2.out 2
  have e3 := blk_cell ST2.out 3
  have r0 := blk_cell RK2.out 0
  have r1 := blk_cell RK2.out 1
  have r2 := blk_cell RK2.out 2
  have r3 := blk_cell RK2.out 3
  have r4 := blk_cell RK2.out 4
  have r5 := blk_cell RK2.out 5
  have r6 := blk_cell RK2.out 6
  have r7 := blk_cell RK2.out 7
  have r8 := blk_cell RK2.out 8
  have q0 := blk_frozen RK2.out 0
  have q1 := blk_frozen RK2.out 1
  have q2 := blk_frozen RK2.out 2
  have q3 := blk_frozen RK2.out 3
  have q4 := blk_frozen RK2.out 4
  have q5 := blk_frozen RK2.out 5
  have q6 := blk_frozen RK2.out 6
  have q7 := blk_frozen RK2.out 7
  have q8 := blk_frozen RK2.out 8
  unfold gotV
  go_wp2_with fail
  refine bodyPost_ret (results_cell_row rfl _ _ (w.heap.size + 1) 32 _ (0, 0) _ rfl (blk_alloc (put9 RK2.out _ _ _ _ _ _ _ _ _) _) Try.underlying32 rfl (by kernel_rfl)) rfl ?_
  exact ⟨rfl, below_alloc (below9 HB2.out (Nat.le_succ _) _ _ _ _ _ _ _ _ _) _⟩
end Go.Proofs.Ytflmpdfcbdfabaa.Wd
