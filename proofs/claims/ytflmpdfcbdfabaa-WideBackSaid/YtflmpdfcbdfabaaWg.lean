/- What a shape gets of the front of bytes, walked. -/
import Derived.Test.YtflmpdfcbdfabaaWf
namespace Go.Proofs.Ytflmpdfcbdfabaa.Wd
open Go.RowKit Go.Proofs.YtflmpdfcbdfabaaW.PrintWords Go.Proofs.YtflmpdfcbdfabaaW.PrintLast Go.Proofs.YtflmpdfcbdfabaaW.PrintMore
open Go.Proofs.Ytflmpdfcbdfabaa.PWideGets
def gotV (e n k u m : Int) : Value := .agg #[.int .i64 e, .int .i64 n, .int .i64 k, .int .i32 u, .int .i32 0, .int .i64 m, .int .i64 0, .int .u32 0, .int .i32 0]
theorem ucs_scalar (u : Int) : ucs_Scalar.f u = some (decide (Scal u)) := by
  unfold ucs_Scalar.f ucs_High.f ucs_Low.f Scal
  by_cases h0 : u ≥ 0 <;> by_cases h1 : u ≤ 1114111 <;> by_cases h2 : u ≥ 55296 <;> by_cases h3 : u < 56320 <;> by_cases h5 : u ≤ 57343 <;> by_cases h4 : u ≥ 56320 <;> simp [h0, h1, h2, h3, h4, h5] <;> omega
theorem ucs_high (u : Int) : ucs_High.f u = some (decide (Hi u)) := by
  unfold ucs_High.f Hi
  by_cases h2 : u ≥ 55296 <;> simp [h2] <;> omega
theorem scalarC (u : Int) (w : World) : Calls Try.prog 19 #[.int .i32 u] w fun e w' => e = .returned (.bool (decide (Scal u))) ∧ Drawn0 w w' :=
  ucs_Scalar.calls u _ w (ucs_scalar u)
theorem highC (u : Int) (w : World) : Calls Try.prog 32 #[.int .i32 u] w fun e w' => e = .returned (.bool (decide (Hi u))) ∧ Drawn0 w w' :=
  ucs_High.calls u _ w (ucs_high u)
theorem num_len {l : List Int} (hb : ∀ x ∈ l, Byte x) (low : Bool) (n : Nat) (hl : n ≤ l.length) : 0 ≤ num low (l.take n) ∧ num low (l.take n) < 256 ^ n := by
  unfold num
  cases low
  · exact numB_bd hb n hl
  · exact numL_bd hb n hl
theorem numC (low : Bool) (A : Option Addr) (c : Nat) (l : List Int) (w : World) (hC : Kd.C (Kd.int .u8) w A l.length l) (hb : ∀ x ∈ l, Byte x) (hl : l.length ≤ 4) :
    Calls Try.prog (if low then 36 else 34) #[.slice A l.length c] w fun e w' => e = .returned (.int .u32 (num low l)) ∧ w' = w := by
  cases low
  · exact bigN A c l w hC hb hl
  · exact littleN A c l w hC hb hl
/-- The number of the first bytes, as the region calls for it. -/
theorem numAt (low : Bool) (A : Option Addr) (c n : Nat) (l : List Int) (w : World) (hC : Kd.C (Kd.int .u8) w A l.length l) (hc : l.length ≤ c) (hb : ∀ x ∈ l, Byte x) (hn : n ≤ 4) (hl : n ≤ l.length) :
    (∀ W : World, (Instr.slice 30 (.slice A l.length c) none (some (.int .i64 (n : Int))) none).run Try.prog W = .ok (.slice A n c) W) ∧
    ∀ W : World, Below w.heap.size w W → Calls Try.prog (if low then 36 else 34) #[.slice A n c] W fun e w' => e = .returned (.int .u32 (num low (l.take n))) ∧ w' = W := by
  obtain ⟨i5, hi5, hz5⟩ := Option.map_eq_some_iff.1 info5
  simp only [Prod.mk.injEq] at hz5
  obtain ⟨h1, h2, h3⟩ := print_take_int (P := Try.prog) (k := .u8) 30 5 Try.underlying30 hi5 hz5.2.1 A c l (n : Int) (by omega) (by omega) hc
  rw [Int.toNat_natCast] at h1 h2 h3
  have hlen : (l.take n).length = n := by rw [List.length_take]; omega
  refine ⟨fun W => by have := h1 W; rw [hlen] at this; exact this, fun W hW => ?_⟩
  have hr := h2 W (Kd.reads_of_C (enc := Value.int .u8) (d := (0 : Int)) (h1 := fun _ => rfl) (Kd.C_below hC hW))
  have := numC low A c (l.take n) W (Kd.C_of_reads (d := (0 : Int)) hr) (fun x hx => hb x (List.mem_of_mem_take hx)) (by omega)
  rw [hlen] at this
  exact this
theorem put6 {w : World} {g : Nat} {t : TypeId} {o0 o1 o2 o3 o4 o5 : Value} (h : w.heap[g]? = some (.cells #[o0, o1, o2, o3, o4, o5] t (0, 0))) (a0 a1 a2 a3 a4 a5 : Value) :
    ((((((w.setCell ⟨g, 0, none⟩ a0).setCell ⟨g, 1, none⟩ a1).setCell ⟨g, 2, none⟩ a2).setCell ⟨g, 3, none⟩ a3).setCell ⟨g, 4, none⟩ a4).setCell ⟨g, 5, none⟩ a5).heap[g]? = some (.cells #[a0, a1, a2, a3, a4, a5] t (0, 0)) :=
  blk_set (blk_set (blk_set (blk_set (blk_set (blk_set h 0 a0) 1 a1) 2 a2) 3 a3) 4 a4) 5 a5
theorem below6 {B : Nat} {w0 w : World} (h : Below B w0 w) {g : Nat} (hg : B ≤ g) (a0 a1 a2 a3 a4 a5 : Value) :
    Below B w0 ((((((w.setCell ⟨g, 0, none⟩ a0).setCell ⟨g, 1, none⟩ a1).setCell ⟨g, 2, none⟩ a2).setCell ⟨g, 3, none⟩ a3).setCell ⟨g, 4, none⟩ a4).setCell ⟨g, 5, none⟩ a5) :=
  (((((h.setCell (p := ⟨g, 0, none⟩) hg a0).setCell (p := ⟨g, 1, none⟩) hg a1).setCell (p := ⟨g, 2, none⟩) hg a2).setCell (p := ⟨g, 3, none⟩) hg a3).setCell (p := ⟨g, 4, none⟩) hg a4).setCell (p := ⟨g, 5, none⟩) hg a5
theorem put9 {w : World} {g : Nat} {t : TypeId} {o0 o1 o2 o3 o4 o5 o6 o7 o8 : Value} (h : w.heap[g]? = some (.cells #[o0, o1, o2, o3, o4, o5, o6, o7, o8] t (0, 0))) (a0 a1 a2 a3 a4 a5 a6 a7 a8 : Value) :
    (((((((((w.setCell ⟨g, 0, none⟩ a0).setCell ⟨g, 1, none⟩ a1).setCell ⟨g, 2, none⟩ a2).setCell ⟨g, 3, none⟩ a3).setCell ⟨g, 4, none⟩ a4).setCell ⟨g, 5, none⟩ a5).setCell ⟨g, 6, none⟩ a6).setCell ⟨g, 7, none⟩ a7).setCell ⟨g, 8, none⟩ a8).heap[g]? = some (.cells #[a0, a1, a2, a3, a4, a5, a6, a7, a8] t (0, 0)) := by
  have h0 : (w.setCell ⟨g, 0, none⟩ a0).heap[g]? = some (.cells #[a0, o1, o2, o3, o4, o5, o6, o7, o8] t (0, 0)) := blk_set h 0 a0
  have h1 : ((w.setCell ⟨g, 0, none⟩ a0).setCell ⟨g, 1, none⟩ a1).heap[g]? = some (.cells #[a0, a1, o2, o3, o4, o5, o6, o7, o8] t (0, 0)) := blk_set h0 1 a1
  have h2 : (((w.setCell ⟨g, 0, none⟩ a0).setCell ⟨g, 1, none⟩ a1).setCell ⟨g, 2, none⟩ a2).heap[g]? = some (.cells #[a0, a1, a2, o3, o4, o5, o6, o7, o8] t (0, 0)) := blk_set h1 2 a2
  have h3 : ((((w.setCell ⟨g, 0, none⟩ a0).setCell ⟨g, 1, none⟩ a1).setCell ⟨g, 2, none⟩ a2).setCell ⟨g, 3, none⟩ a3).heap[g]? = some (.cells #[a0, a1, a2, a3, o4, o5, o6, o7, o8] t (0, 0)) := blk_set h2 3 a3
  have h4 : (((((w.setCell ⟨g, 0, none⟩ a0).setCell ⟨g, 1, none⟩ a1).setCell ⟨g, 2, none⟩ a2).setCell ⟨g, 3, none⟩ a3).setCell ⟨g, 4, none⟩ a4).heap[g]? = some (.cells #[a0, a1, a2, a3, a4, o5, o6, o7, o8] t (0, 0)) := blk_set h3 4 a4
  have h5 : ((((((w.setCell ⟨g, 0, none⟩ a0).setCell ⟨g, 1, none⟩ a1).setCell ⟨g, 2, none⟩ a2).setCell ⟨g, 3, none⟩ a3).setCell ⟨g, 4, none⟩ a4).setCell ⟨g, 5, none⟩ a5).heap[g]? = some (.cells #[a0, a1, a2, a3, a4, a5, o6, o7, o8] t (0, 0)) := blk_set h4 5 a5
  have h6 : (((((((w.setCell ⟨g, 0, none⟩ a0).setCell ⟨g, 1, none⟩ a1).setCell ⟨g, 2, none⟩ a2).setCell ⟨g, 3, none⟩ a3).setCell ⟨g, 4, none⟩ a4).setCell ⟨g, 5, none⟩ a5).setCell ⟨g, 6, none⟩ a6).heap[g]? = some (.cells #[a0, a1, a2, a3, a4, a5, a6, o7, o8] t (0, 0)) := blk_set h5 6 a6
  have h7 : ((((((((w.setCell ⟨g, 0, none⟩ a0).setCell ⟨g, 1, none⟩ a1).setCell ⟨g, 2, none⟩ a2).setCell ⟨g, 3, none⟩ a3).setCell ⟨g, 4, none⟩ a4).setCell ⟨g, 5, none⟩ a5).setCell ⟨g, 6, none⟩ a6).setCell ⟨g, 7, none⟩ a7).heap[g]? = some (.cells #[a0, a1, a2, a3, a4, a5, a6, a7, o8] t (0, 0)) := blk_set h6 7 a7
  have h8 : (((((((((w.setCell ⟨g, 0, none⟩ a0).setCell ⟨g, 1, none⟩ a1).setCell ⟨g, 2, none⟩ a2).setCell ⟨g, 3, none⟩ a3).setCell ⟨g, 4, none⟩ a4).setCell ⟨g, 5, none⟩ a5).setCell ⟨g, 6, none⟩ a6).setCell ⟨g, 7, none⟩ a7).setCell ⟨g, 8, none⟩ a8).heap[g]? = some (.cells #[a0, a1, a2, a3, a4, a5, a6, a7, a8] t (0, 0)) := blk_set h7 8 a8
  exact h8
theorem below9 {B : Nat} {w0 w : World} (h : Below B w0 w) {g : Nat} (hg : B ≤ g) (a0 a1 a2 a3 a4 a5 a6 a7 a8 : Value) :
    Below B w0 (((((((((w.setCell ⟨g, 0, none⟩ a0).setCell ⟨g, 1, none⟩ a1).setCell ⟨g, 2, none⟩ a2).setCell ⟨g, 3, none⟩ a3).setCell ⟨g, 4, none⟩ a4).setCell ⟨g, 5, none⟩ a5).setCell ⟨g, 6, none⟩ a6).setCell ⟨g, 7, none⟩ a7).setCell ⟨g, 8, none⟩ a8) := by
  have h6 := below6 h hg a0 a1 a2 a3 a4 a5
  have h7 := h6.setCell (p := ⟨g, 6, none⟩) hg a6
  have h8 := h7.setCell (p := ⟨g, 7, none⟩) hg a7
  exact h8.setCell (p := ⟨g, 8, none⟩) hg a8
abbrev gotZ' : Obj := .cells #[.int .i64 0, .int .i64 0, .int .i64 0, .int .i32 0, .int .i32 0, .int .i64 0, .int .i64 0, .int .u32 0, .int .i32 0] 37 (0, 0)
abbrev gotZ : Obj := .cells #[.int .i64 0, .int .i64 0, .int .i64 0, .int .i32 0, .int .i32 0, .int .i64 0, .int .i64 0, .int .u32 0, .int .i32 0] 37
theorem blk_second (w : World) (o o' : Obj) : ((w.alloc o).alloc o').heap[w.heap.size + 1]? = some o' := by simpa using heap_alloc_new (w.alloc o) o'
set_option maxHeartbeats 2000000 in
set_option maxRecDepth 100000 in
theorem sget_short (n : Int) (pairs marks low : Bool) (A : Option Addr) (c : Nat) (l : List Int) (w : World) (hn : n = 2 ∨ n = 4) (h : (l.length : Int) < n) : Calls Try.prog 29 #[shV n pairs marks low, .slice A l.length c] w fun e w' => e = .returned (gotV 1 0 0 0 0) ∧ Below w.heap.size w w' := by
  unfold shV
  generalize fN low = F1
  generalize fS low = F2
  generalize l.length = m at *
  rcases hn with rfl | rfl
  all_goals
    go_enter Try.func29, Try.ntmps29
    go_wp2_with fail
    refine bodyPost_ret (results_cell_row rfl _ _ (w.heap.size + 1) 32 #[.int .i64 1, .int .i64 0, .int .i64 0, .int .i32 0, .int .i32 0, .int .i64 0, .int .i64 0, .int .u32 0, .int .i32 0] (0, 0) _ rfl (blk_second _ _ _) Try.underlying32 rfl (by kernel_rfl)) rfl ?_
    exact ⟨rfl, below_alloc (below_alloc (Below.refl _ _) _) _⟩
set_option maxHeartbeats 1000000 in
set_option maxRecDepth 100000 in
theorem sget_sc_false2 (pairs marks : Bool) (A : Option Addr) (c : Nat) (l : List Int) (w : World) (hC : Kd.C (Kd.int .u8) w A l.length l) (hc : l.length ≤ c) (hb : ∀ x ∈ l, Byte x) (hl : 2 ≤ l.length) (hs : Scal (num false (l.take 2))) : Calls Try.prog 29 #[shV 2 pairs marks false, .slice A l.length c] w fun e w' => e = .returned (gotV 0 2 1 (num false (l.take 2)) 0) ∧ Below w.heap.size w w' := by
  obtain ⟨hsl, hnum⟩ := numAt false A c 2 l w hC hc hb (by omega) (by omega)
  have hxb := num_len hb false 2 (by omega)
  have HS := Lib.hid hs
  clear hs
  have HNUM := Lib.hid hnum
  clear hC hc hb hnum
  change ∀ W : World, (Instr.slice 30 (.slice A l.length c) none (some (.int .i64 2)) none).run Try.prog W = .ok (.slice A 2 c) W at hsl
  generalize num false (l.take 2) = x at *
  change Hid (∀ W : World, Below w.heap.size w W → Calls Try.prog 34 #[.slice A 2 c] W fun e w' => e = .returned (.int .u32 x) ∧ w' = W) at HNUM
  have hx0 : 0 ≤ x := HS.out.1
  have hx1 : x ≤ 1114111 := HS.out.2.1
  unfold shV
  change Calls Try.prog 29 #[.agg #[.int .i64 2, .bool pairs, .bool marks, .func (.func 34) #[] #[], .func (.func 35) #[] #[]], .slice A l.length c] w _
  go_enter Try.func29, Try.ntmps29
  go_upto_region 3 with fail
  have SH0 : Hid (((w.alloc (.cells #[.int .i64 2, .bool pairs, .bool marks, .func (.func 34) #[] #[], .func (.func 35) #[] #[]] 48)).alloc (.cells #[.int .i64 0, .int .i64 0, .int .i64 0, .int .i32 0, .int .i32 0, .int .i64 0, .int .i64 0, .int .u32 0, .int .i32 0] 32)).heap[w.heap.size]? = some (.cells #[.int .i64 2, .bool pairs, .bool marks, .func (.func 34) #[] #[], .func (.func 35) #[] #[]] 48 (0, 0))) := Lib.hid (blk_alloc (heap_alloc_new _ _) _)
  have BK0 : Hid (((w.alloc (.cells #[.int .i64 2, .bool pairs, .bool marks, .func (.func 34) #[] #[], .func (.func 35) #[] #[]] 48)).alloc (.cells #[.int .i64 0, .int .i64 0, .int .i64 0, .int .i32 0, .int .i32 0, .int .i64 0, .int .i64 0, .int .u32 0, .int .i32 0] 32)).heap[w.heap.size + 1]? = some (.cells #[.int .i64 0, .int .i64 0, .int .i64 0, .int .i32 0, .int .i32 0, .int .i64 0, .int .i64 0, .int .u32 0, .int .i32 0] 32 (0, 0))) := Lib.hid (blk_second _ _ _)
  have HB0 : Hid (Below w.heap.size w ((w.alloc (.cells #[.int .i64 2, .bool pairs, .bool marks, .func (.func 34) #[] #[], .func (.func 35) #[] #[]] 48)).alloc (.cells #[.int .i64 0, .int .i64 0, .int .i64 0, .int .i32 0, .int .i32 0, .int .i64 0, .int .i64 0, .int .u32 0, .int .i32 0] 32))) := Lib.hid (below_alloc (below_alloc (Below.refl _ _) _) _)
  generalize ((w.alloc (.cells #[.int .i64 2, .bool pairs, .bool marks, .func (.func 34) #[] #[], .func (.func 35) #[] #[]] 48)).alloc (.cells #[.int .i64 0, .int .i64 0, .int .i64 0, .int .i32 0, .int .i32 0, .int .i64 0, .int .i64 0, .int .u32 0, .int .i32 0] 32)) = W at *
  have e0 := blk_cell SH0.out 0
  have e1 := blk_cell SH0.out 1
  have e2 := blk_cell SH0.out 2
  have e3 := blk_cell SH0.out 3
  have e4 := blk_cell SH0.out 4
  go_quiet ((go_at_call 34; exact Calls.quiet_of_same (HNUM.out _ (pw_below_drewN HB0.out _))))
  clear e0 e1 e2 e3 e4
  have SH1 : Hid ((W.drewN nq).heap[w.heap.size]? = some (.cells #[.int .i64 2, .bool pairs, .bool marks, .func (.func 34) #[] #[], .func (.func 35) #[] #[]] 48 (0, 0))) := Lib.hid (blk_drewN SH0.out _)
  have BK1 : Hid ((W.drewN nq).heap[w.heap.size + 1]? = some (.cells #[.int .i64 0, .int .i64 0, .int .i64 0, .int .i32 0, .int .i32 0, .int .i64 0, .int .i64 0, .int .u32 0, .int .i32 0] 32 (0, 0))) := Lib.hid (blk_drewN BK0.out _)
  have HB1 : Hid (Below w.heap.size w (W.drewN nq)) := Lib.hid (pw_below_drewN HB0.out _)
  generalize W.drewN nq = W1 at *
  clear SH0 BK0 HB0
  have e0 := blk_cell SH1.out 0
  have e1 := blk_cell SH1.out 1
  have e2 := blk_cell SH1.out 2
  have e3 := blk_cell SH1.out 3
  have e4 := blk_cell SH1.out 4
  go_wp2_with fail
  refine (scalarC x _).mono ?_
  rintro e w2 ⟨rfl, ⟨m2, rfl⟩⟩
  rw [decide_eq_true HS.out]
  clear e0 e1 e2 e3 e4
  have SH2 : Hid ((W1.drewN m2).heap[w.heap.size]? = some (.cells #[.int .i64 2, .bool pairs, .bool marks, .func (.func 34) #[] #[], .func (.func 35) #[] #[]] 48 (0, 0))) := Lib.hid (blk_drewN SH1.out _)
  have BK2 : Hid ((W1.drewN m2).heap[w.heap.size + 1]? = some (.cells #[.int .i64 0, .int .i64 0, .int .i64 0, .int .i32 0, .int .i32 0, .int .i64 0, .int .i64 0, .int .u32 0, .int .i32 0] 32 (0, 0))) := Lib.hid (blk_drewN BK1.out _)
  have HB2 : Hid (Below w.heap.size w (W1.drewN m2)) := Lib.hid (pw_below_drewN HB1.out _)
  generalize W1.drewN m2 = W2 at *
  clear SH1 BK1 HB1
  have e0 := blk_cell SH2.out 0
  have e1 := blk_cell SH2.out 1
  have e2 := blk_cell SH2.out 2
  have e3 := blk_cell SH2.out 3
  have e4 := blk_cell SH2.out 4
  have r0 := blk_cell BK2.out 0
  have q0 := blk_frozen BK2.out 0
  have r1 := blk_cell BK2.out 1
  have q1 := blk_frozen BK2.out 1
  have r2 := blk_cell BK2.out 2
  have q2 := blk_frozen BK2.out 2
  have r3 := blk_cell BK2.out 3
  have q3 := blk_frozen BK2.out 3
  have r4 := blk_cell BK2.out 4
  have q4 := blk_frozen BK2.out 4
  have r5 := blk_cell BK2.out 5
  have q5 := blk_frozen BK2.out 5
  have r6 := blk_cell BK2.out 6
  have q6 := blk_frozen BK2.out 6
  have r7 := blk_cell BK2.out 7
  have q7 := blk_frozen BK2.out 7
  have r8 := blk_cell BK2.out 8
  have q8 := blk_frozen BK2.out 8
  go_wp2_with fail
  refine bodyPost_ret (results_cell_row rfl _ _ (w.heap.size + 1) 32 _ (0, 0) _ rfl (put9 BK2.out _ _ _ _ _ _ _ _ _) Try.underlying32 rfl (by kernel_rfl)) rfl ?_
  exact ⟨rfl, below9 HB2.out (Nat.le_succ _) _ _ _ _ _ _ _ _ _⟩
set_option maxHeartbeats 1000000 in
set_option maxRecDepth 100000 in
theorem sget_sc_false4 (pairs marks : Bool) (A : Option Addr) (c : Nat) (l : List Int) (w : World) (hC : Kd.C (Kd.int .u8) w A l.length l) (hc : l.length ≤ c) (hb : ∀ x ∈ l, Byte x) (hl : 4 ≤ l.length) (hs : Scal (num false (l.take 4))) : Calls Try.prog 29 #[shV 4 pairs marks false, .slice A l.length c] w fun e w' => e = .returned (gotV 0 4 1 (num false (l.take 4)) 0) ∧ Below w.heap.size w w' := by
  obtain ⟨hsl, hnum⟩ := numAt false A c 4 l w hC hc hb (by omega) (by omega)
  have hxb := num_len hb false 4 (by omega)
  have HS := Lib.hid hs
  clear hs
  have HNUM := Lib.hid hnum
  clear hC hc hb hnum
  change ∀ W : World, (Instr.slice 30 (.slice A l.length c) none (some (.int .i64 4)) none).run Try.prog W = .ok (.slice A 4 c) W at hsl
  generalize num false (l.take 4) = x at *
  change Hid (∀ W : World, Below w.heap.size w W → Calls Try.prog 34 #[.slice A 4 c] W fun e w' => e = .returned (.int .u32 x) ∧ w' = W) at HNUM
  have hx0 : 0 ≤ x := HS.out.1
  have hx1 : x ≤ 1114111 := HS.out.2.1
  unfold shV
  change Calls Try.prog 29 #[.agg #[.int .i64 4, .bool pairs, .bool marks, .func (.func 34) #[] #[], .func (.func 35) #[] #[]], .slice A l.length c] w _
  go_enter Try.func29, Try.ntmps29
  go_upto_region 3 with fail
  have SH0 : Hid (((w.alloc (.cells #[.int .i64 4, .bool pairs, .bool marks, .func (.func 34) #[] #[], .func (.func 35) #[] #[]] 48)).alloc (.cells #[.int .i64 0, .int .i64 0, .int .i64 0, .int .i32 0, .int .i32 0, .int .i64 0, .int .i64 0, .int .u32 0, .int .i32 0] 32)).heap[w.heap.size]? = some (.cells #[.int .i64 4, .bool pairs, .bool marks, .func (.func 34) #[] #[], .func (.func 35) #[] #[]] 48 (0, 0))) := Lib.hid (blk_alloc (heap_alloc_new _ _) _)
  have BK0 : Hid (((w.alloc (.cells #[.int .i64 4, .bool pairs, .bool marks, .func (.func 34) #[] #[], .func (.func 35) #[] #[]] 48)).alloc (.cells #[.int .i64 0, .int .i64 0, .int .i64 0, .int .i32 0, .int .i32 0, .int .i64 0, .int .i64 0, .int .u32 0, .int .i32 0] 32)).heap[w.heap.size + 1]? = some (.cells #[.int .i64 0, .int .i64 0, .int .i64 0, .int .i32 0, .int .i32 0, .int .i64 0, .int .i64 0, .int .u32 0, .int .i32 0] 32 (0, 0))) := Lib.hid (blk_second _ _ _)
  have HB0 : Hid (Below w.heap.size w ((w.alloc (.cells #[.int .i64 4, .bool pairs, .bool marks, .func (.func 34) #[] #[], .func (.func 35) #[] #[]] 48)).alloc (.cells #[.int .i64 0, .int .i64 0, .int .i64 0, .int .i32 0, .int .i32 0, .int .i64 0, .int .i64 0, .int .u32 0, .int .i32 0] 32))) := Lib.hid (below_alloc (below_alloc (Below.refl _ _) _) _)
  generalize ((w.alloc (.cells #[.int .i64 4, .bool pairs, .bool marks, .func (.func 34) #[] #[], .func (.func 35) #[] #[]] 48)).alloc (.cells #[.int .i64 0, .int .i64 0, .int .i64 0, .int .i32 0, .int .i32 0, .int .i64 0, .int .i64 0, .int .u32 0, .int .i32 0] 32)) = W at *
  have e0 := blk_cell SH0.out 0
  have e1 := blk_cell SH0.out 1
  have e2 := blk_cell SH0.out 2
  have e3 := blk_cell SH0.out 3
  have e4 := blk_cell SH0.out 4
  go_quiet ((go_at_call 34; exact Calls.quiet_of_same (HNUM.out _ (pw_below_drewN HB0.out _))))
  clear e0 e1 e2 e3 e4
  have SH1 : Hid ((W.drewN nq).heap[w.heap.size]? = some (.cells #[.int .i64 4, .bool pairs, .bool marks, .func (.func 34) #[] #[], .func (.func 35) #[] #[]] 48 (0, 0))) := Lib.hid (blk_drewN SH0.out _)
  have BK1 : Hid ((W.drewN nq).heap[w.heap.size + 1]? = some (.cells #[.int .i64 0, .int .i64 0, .int .i64 0, .int .i32 0, .int .i32 0, .int .i64 0, .int .i64 0, .int .u32 0, .int .i32 0] 32 (0, 0))) := Lib.hid (blk_drewN BK0.out _)
  have HB1 : Hid (Below w.heap.size w (W.drewN nq)) := Lib.hid (pw_below_drewN HB0.out _)
  generalize W.drewN nq = W1 at *
  clear SH0 BK0 HB0
  have e0 := blk_cell SH1.out 0
  have e1 := blk_cell SH1.out 1
  have e2 := blk_cell SH1.out 2
  have e3 := blk_cell SH1.out 3
  have e4 := blk_cell SH1.out 4
  go_wp2_with fail
  refine (scalarC x _).mono ?_
  rintro e w2 ⟨rfl, ⟨m2, rfl⟩⟩
  rw [decide_eq_true HS.out]
  clear e0 e1 e2 e3 e4
  have SH2 : Hid ((W1.drewN m2).heap[w.heap.size]? = some (.cells #[.int .i64 4, .bool pairs, .bool marks, .func (.func 34) #[] #[], .func (.func 35) #[] #[]] 48 (0, 0))) := Lib.hid (blk_drewN SH1.out _)
  have BK2 : Hid ((W1.drewN m2).heap[w.heap.size + 1]? = some (.cells #[.int .i64 0, .int .i64 0, .int .i64 0, .int .i32 0, .int .i32 0, .int .i64 0, .int .i64 0, .int .u32 0, .int .i32 0] 32 (0, 0))) := Lib.hid (blk_drewN BK1.out _)
  have HB2 : Hid (Below w.heap.size w (W1.drewN m2)) := Lib.hid (pw_below_drewN HB1.out _)
  generalize W1.drewN m2 = W2 at *
  clear SH1 BK1 HB1
  have e0 := blk_cell SH2.out 0
  have e1 := blk_cell SH2.out 1
  have e2 := blk_cell SH2.out 2
  have e3 := blk_cell SH2.out 3
  have e4 := blk_cell SH2.out 4
  have r0 := blk_cell BK2.out 0
  have q0 := blk_frozen BK2.out 0
  have r1 := blk_cell BK2.out 1
  have q1 := blk_frozen BK2.out 1
  have r2 := blk_cell BK2.out 2
  have q2 := blk_frozen BK2.out 2
  have r3 := blk_cell BK2.out 3
  have q3 := blk_frozen BK2.out 3
  have r4 := blk_cell BK2.out 4
  have q4 := blk_frozen BK2.out 4
  have r5 := blk_cell BK2.out 5
  have q5 := blk_frozen BK2.out 5
  have r6 := blk_cell BK2.out 6
  have q6 := blk_frozen BK2.out 6
  have r7 := blk_cell BK2.out 7
  have q7 := blk_frozen BK2.out 7
  have r8 := blk_cell BK2.out 8
  have q8 := blk_frozen BK2.out 8
  go_wp2_with fail
  refine bodyPost_ret (results_cell_row rfl _ _ (w.heap.size + 1) 32 _ (0, 0) _ rfl (put9 BK2.out _ _ _ _ _ _ _ _ _) Try.underlying32 rfl (by kernel_rfl)) rfl ?_
  exact ⟨rfl, below9 HB2.out (Nat.le_succ _) _ _ _ _ _ _ _ _ _⟩
set_option maxHeartbeats 1000000 in
set_option maxRecDepth 100000 in
theorem sget_big_false4 (marks : Bool) (A : Option Addr) (c : Nat) (l : List Int) (w : World) (hC : Kd.C (Kd.int .u8) w A l.length l) (hc : l.length ≤ c) (hb : ∀ x ∈ l, Byte x) (hl : 4 ≤ l.length) (hs : 1114111 < num false (l.take 4)) : Calls Try.prog 29 #[shV 4 false marks false, .slice A l.length c] w fun e w' => e = .returned (gotV 10 4 0 0 0) ∧ Below w.heap.size w w' := by
  obtain ⟨hsl, hnum⟩ := numAt false A c 4 l w hC hc hb (by omega) (by omega)
  have hxb := num_len hb false 4 (by omega)
  have HNUM := Lib.hid hnum
  clear hC hc hb hnum
  change ∀ W : World, (Instr.slice 30 (.slice A l.length c) none (some (.int .i64 4)) none).run Try.prog W = .ok (.slice A 4 c) W at hsl
  generalize num false (l.take 4) = x at *
  change Hid (∀ W : World, Below w.heap.size w W → Calls Try.prog 34 #[.slice A 4 c] W fun e w' => e = .returned (.int .u32 x) ∧ w' = W) at HNUM
  have hx0 : 0 ≤ x := hxb.1
  unfold shV
  change Calls Try.prog 29 #[.agg #[.int .i64 4, .bool false, .bool marks, .func (.func 34) #[] #[], .func (.func 35) #[] #[]], .slice A l.length c] w _
  go_enter Try.func29, Try.ntmps29
  go_upto_region 3 with fail
  have SH0 : Hid (((w.alloc (.cells #[.int .i64 4, .bool false, .bool marks, .func (.func 34) #[] #[], .func (.func 35) #[] #[]] 48)).alloc (.cells #[.int .i64 0, .int .i64 0, .int .i64 0, .int .i32 0, .int .i32 0, .int .i64 0, .int .i64 0, .int .u32 0, .int .i32 0] 32)).heap[w.heap.size]? = some (.cells #[.int .i64 4, .bool false, .bool marks, .func (.func 34) #[] #[], .func (.func 35) #[] #[]] 48 (0, 0))) := Lib.hid (blk_alloc (heap_alloc_new _ _) _)
  have BK0 : Hid (((w.alloc (.cells #[.int .i64 4, .bool false, .bool marks, .func (.func 34) #[] #[], .func (.func 35) #[] #[]] 48)).alloc (.cells #[.int .i64 0, .int .i64 0, .int .i64 0, .int .i32 0, .int .i32 0, .int .i64 0, .int .i64 0, .int .u32 0, .int .i32 0] 32)).heap[w.heap.size + 1]? = some (.cells #[.int .i64 0, .int .i64 0, .int .i64 0, .int .i32 0, .int .i32 0, .int .i64 0, .int .i64 0, .int .u32 0, .int .i32 0] 32 (0, 0))) := Lib.hid (blk_second _ _ _)
  have HB0 : Hid (Below w.heap.size w ((w.alloc (.cells #[.int .i64 4, .bool false, .bool marks, .func (.func 34) #[] #[], .func (.func 35) #[] #[]] 48)).alloc (.cells #[.int .i64 0, .int .i64 0, .int .i64 0, .int .i32 0, .int .i32 0, .int .i64 0, .int .i64 0, .int .u32 0, .int .i32 0] 32))) := Lib.hid (below_alloc (below_alloc (Below.refl _ _) _) _)
  generalize ((w.alloc (.cells #[.int .i64 4, .bool false, .bool marks, .func (.func 34) #[] #[], .func (.func 35) #[] #[]] 48)).alloc (.cells #[.int .i64 0, .int .i64 0, .int .i64 0, .int .i32 0, .int .i32 0, .int .i64 0, .int .i64 0, .int .u32 0, .int .i32 0] 32)) = W at *
  have e0 := blk_cell SH0.out 0
  have e1 := blk_cell SH0.out 1
  have e2 := blk_cell SH0.out 2
  have e3 := blk_cell SH0.out 3
  have e4 := blk_cell SH0.out 4
  go_quiet ((go_at_call 34; exact Calls.quiet_of_same (HNUM.out _ (pw_below_drewN HB0.out _))))
  clear e0 e1 e2 e3 e4
  have SH1 : Hid ((W.drewN nq).heap[w.heap.size]? = some (.cells #[.int .i64 4, .bool false, .bool marks, .func (.func 34) #[] #[], .func (.func 35) #[] #[]] 48 (0, 0))) := Lib.hid (blk_drewN SH0.out _)
  have BK1 : Hid ((W.drewN nq).heap[w.heap.size + 1]? = some (.cells #[.int .i64 0, .int .i64 0, .int .i64 0, .int .i32 0, .int .i32 0, .int .i64 0, .int .i64 0, .int .u32 0, .int .i32 0] 32 (0, 0))) := Lib.hid (blk_drewN BK0.out _)
  have HB1 : Hid (Below w.heap.size w (W.drewN nq)) := Lib.hid (pw_below_drewN HB0.out _)
  generalize W.drewN nq = W1 at *
  clear SH0 BK0 HB0
  have e0 := blk_cell SH1.out 0
  have e1 := blk_cell SH1.out 1
  have e2 := blk_cell SH1.out 2
  have e3 := blk_cell SH1.out 3
  have e4 := blk_cell SH1.out 4
  have r0 := blk_cell BK1.out 0
  have q0 := blk_frozen BK1.out 0
  have r1 := blk_cell BK1.out 1
  have q1 := blk_frozen BK1.out 1
  have r2 := blk_cell BK1.out 2
  have q2 := blk_frozen BK1.out 2
  have r3 := blk_cell BK1.out 3
  have q3 := blk_frozen BK1.out 3
  have r4 := blk_cell BK1.out 4
  have q4 := blk_frozen BK1.out 4
  have r5 := blk_cell BK1.out 5
  have q5 := blk_frozen BK1.out 5
  have r6 := blk_cell BK1.out 6
  have q6 := blk_frozen BK1.out 6
  have r7 := blk_cell BK1.out 7
  have q7 := blk_frozen BK1.out 7
  have r8 := blk_cell BK1.out 8
  have q8 := blk_frozen BK1.out 8
  go_wp2_with fail
  refine bodyPost_ret (results_cell_row rfl _ _ (w.heap.size + 1) 32 _ (0, 0) _ rfl (put9 BK1.out _ _ _ _ _ _ _ _ _) Try.underlying32 rfl (by kernel_rfl)) rfl ?_
  exact ⟨rfl, below9 HB1.out (Nat.le_succ _) _ _ _ _ _ _ _ _ _⟩
set_option maxHeartbeats 1000000 in
set_option maxRecDepth 100000 in
theorem sget_no_false4 (marks : Bool) (A : Option Addr) (c : Nat) (l : List Int) (w : World) (hC : Kd.C (Kd.int .u8) w A l.length l) (hc : l.length ≤ c) (hb : ∀ x ∈ l, Byte x) (hl : 4 ≤ l.length) (hs : ¬ Scal (num false (l.take 4))) (hx1 : num false (l.take 4) ≤ 1114111) : Calls Try.prog 29 #[shV 4 false marks false, .slice A l.length c] w fun e w' => e = .returned (gotV 10 4 0 0 0) ∧ Below w.heap.size w w' := by
  obtain ⟨hsl, hnum⟩ := numAt false A c 4 l w hC hc hb (by omega) (by omega)
  have hxb := num_len hb false 4 (by omega)
  have HS := Lib.hid hs
  clear hs
  have HNUM := Lib.hid hnum
  clear hC hc hb hnum
  change ∀ W : World, (Instr.slice 30 (.slice A l.length c) none (some (.int .i64 4)) none).run Try.prog W = .ok (.slice A 4 c) W at hsl
  generalize num false (l.take 4) = x at *
  change Hid (∀ W : World, Below w.heap.size w W → Calls Try.prog 34 #[.slice A 4 c] W fun e w' => e = .returned (.int .u32 x) ∧ w' = W) at HNUM
  have hx0 : 0 ≤ x := hxb.1
  unfold shV
  change Calls Try.prog 29 #[.agg #[.int .i64 4, .bool false, .bool marks, .func (.func 34) #[] #[], .func (.func 35) #[] #[]], .slice A l.length c] w _
  go_enter Try.func29, Try.ntmps29
  go_upto_region 3 with fail
  have SH0 : Hid (((w.alloc (.cells #[.int .i64 4, .bool false, .bool marks, .func (.func 34) #[] #[], .func (.func 35) #[] #[]] 48)).alloc (.cells #[.int .i64 0, .int .i64 0, .int .i64 0, .int .i32 0, .int .i32 0, .int .i64 0, .int .i64 0, .int .u32 0, .int .i32 0] 32)).heap[w.heap.size]? = some (.cells #[.int .i64 4, .bool false, .bool marks, .func (.func 34) #[] #[], .func (.func 35) #[] #[]] 48 (0, 0))) := Lib.hid (blk_alloc (heap_alloc_new _ _) _)
  have BK0 : Hid (((w.alloc (.cells #[.int .i64 4, .bool false, .bool marks, .func (.func 34) #[] #[], .func (.func 35) #[] #[]] 48)).alloc (.cells #[.int .i64 0, .int .i64 0, .int .i64 0, .int .i32 0, .int .i32 0, .int .i64 0, .int .i64 0, .int .u32 0, .int .i32 0] 32)).heap[w.heap.size + 1]? = some (.cells #[.int .i64 0, .int .i64 0, .int .i64 0, .int .i32 0, .int .i32 0, .int .i64 0, .int .i64 0, .int .u32 0, .int .i32 0] 32 (0, 0))) := Lib.hid (blk_second _ _ _)
  have HB0 : Hid (Below w.heap.size w ((w.alloc (.cells #[.int .i64 4, .bool false, .bool marks, .func (.func 34) #[] #[], .func (.func 35) #[] #[]] 48)).alloc (.cells #[.int .i64 0, .int .i64 0, .int .i64 0, .int .i32 0, .int .i32 0, .int .i64 0, .int .i64 0, .int .u32 0, .int .i32 0] 32))) := Lib.hid (below_alloc (below_alloc (Below.refl _ _) _) _)
  generalize ((w.alloc (.cells #[.int .i64 4, .bool false, .bool marks, .func (.func 34) #[] #[], .func (.func 35) #[] #[]] 48)).alloc (.cells #[.int .i64 0, .int .i64 0, .int .i64 0, .int .i32 0, .int .i32 0, .int .i64 0, .int .i64 0, .int .u32 0, .int .i32 0] 32)) = W at *
  have e0 := blk_cell SH0.out 0
  have e1 := blk_cell SH0.out 1
  have e2 := blk_cell SH0.out 2
  have e3 := blk_cell SH0.out 3
  have e4 := blk_cell SH0.out 4
  go_quiet ((go_at_call 34; exact Calls.quiet_of_same (HNUM.out _ (pw_below_drewN HB0.out _))))
  clear e0 e1 e2 e3 e4
  have SH1 : Hid ((W.drewN nq).heap[w.heap.size]? = some (.cells #[.int .i64 4, .bool false, .bool marks, .func (.func 34) #[] #[], .func (.func 35) #[] #[]] 48 (0, 0))) := Lib.hid (blk_drewN SH0.out _)
  have BK1 : Hid ((W.drewN nq).heap[w.heap.size + 1]? = some (.cells #[.int .i64 0, .int .i64 0, .int .i64 0, .int .i32 0, .int .i32 0, .int .i64 0, .int .i64 0, .int .u32 0, .int .i32 0] 32 (0, 0))) := Lib.hid (blk_drewN BK0.out _)
  have HB1 : Hid (Below w.heap.size w (W.drewN nq)) := Lib.hid (pw_below_drewN HB0.out _)
  generalize W.drewN nq = W1 at *
  clear SH0 BK0 HB0
  have e0 := blk_cell SH1.out 0
  have e1 := blk_cell SH1.out 1
  have e2 := blk_cell SH1.out 2
  have e3 := blk_cell SH1.out 3
  have e4 := blk_cell SH1.out 4
  go_wp2_with fail
  refine (scalarC x _).mono ?_
  rintro e w2 ⟨rfl, ⟨m2, rfl⟩⟩
  rw [decide_eq_false HS.out]
  clear e0 e1 e2 e3 e4
  have SH2 : Hid ((W1.drewN m2).heap[w.heap.size]? = some (.cells #[.int .i64 4, .bool false, .bool marks, .func (.func 34) #[] #[], .func (.func 35) #[] #[]] 48 (0, 0))) := Lib.hid (blk_drewN SH1.out _)
  have BK2 : Hid ((W1.drewN m2).heap[w.heap.size + 1]? = some (.cells #[.int .i64 0, .int .i64 0, .int .i64 0, .int .i32 0, .int .i32 0, .int .i64 0, .int .i64 0, .int .u32 0, .int .i32 0] 32 (0, 0))) := Lib.hid (blk_drewN BK1.out _)
  have HB2 : Hid (Below w.heap.size w (W1.drewN m2)) := Lib.hid (pw_below_drewN HB1.out _)
  generalize W1.drewN m2 = W2 at *
  clear SH1 BK1 HB1
  have e0 := blk_cell SH2.out 0
  have e1 := blk_cell SH2.out 1
  have e2 := blk_cell SH2.out 2
  have e3 := blk_cell SH2.out 3
  have e4 := blk_cell SH2.out 4
  have r0 := blk_cell BK2.out 0
  have q0 := blk_frozen BK2.out 0
  have r1 := blk_cell BK2.out 1
  have q1 := blk_frozen BK2.out 1
  have r2 := blk_cell BK2.out 2
  have q2 := blk_frozen BK2.out 2
  have r3 := blk_cell BK2.out 3
  have q3 := blk_frozen BK2.out 3
  have r4 := blk_cell BK2.out 4
  have q4 := blk_frozen BK2.out 4
  have r5 := blk_cell BK2.out 5
  have q5 := blk_frozen BK2.out 5
  have r6 := blk_cell BK2.out 6
  have q6 := blk_frozen BK2.out 6
  have r7 := blk_cell BK2.out 7
  have q7 := blk_frozen BK2.out 7
  have r8 := blk_cell BK2.out 8
  have q8 := blk_frozen BK2.out 8
  go_wp2_with fail
  refine bodyPost_ret (results_cell_row rfl _ _ (w.heap.size + 1) 32 _ (0, 0) _ rfl (put9 BK2.out _ _ _ _ _ _ _ _ _) Try.underlying32 rfl (by kernel_rfl)) rfl ?_
  exact ⟨rfl, below9 HB2.out (Nat.le_succ _) _ _ _ _ _ _ _ _ _⟩
set_option maxHeartbeats 1000000 in
set_option maxRecDepth 100000 in
theorem sget_no_false2 (marks : Bool) (A : Option Addr) (c : Nat) (l : List Int) (w : World) (hC : Kd.C (Kd.int .u8) w A l.length l) (hc : l.length ≤ c) (hb : ∀ x ∈ l, Byte x) (hl : 2 ≤ l.length) (hs : ¬ Scal (num false (l.take 2))) (hx1 : num false (l.take 2) ≤ 1114111) : Calls Try.prog 29 #[shV 2 false marks false, .slice A l.length c] w fun e w' => e = .returned (gotV 10 2 0 0 0) ∧ Below w.heap.size w w' := by
  obtain ⟨hsl, hnum⟩ := numAt false A c 2 l w hC hc hb (by omega) (by omega)
  have hxb := num_len hb false 2 (by omega)
  have HS := Lib.hid hs
  clear hs
  have HNUM := Lib.hid hnum
  clear hC hc hb hnum
  change ∀ W : World, (Instr.slice 30 (.slice A l.length c) none (some (.int .i64 2)) none).run Try.prog W = .ok (.slice A 2 c) W at hsl
  generalize num false (l.take 2) = x at *
  change Hid (∀ W : World, Below w.heap.size w W → Calls Try.prog 34 #[.slice A 2 c] W fun e w' => e = .returned (.int .u32 x) ∧ w' = W) at HNUM
  have hx0 : 0 ≤ x := hxb.1
  unfold shV
  change Calls Try.prog 29 #[.agg #[.int .i64 2, .bool false, .bool marks, .func (.func 34) #[] #[], .func (.func 35) #[] #[]], .slice A l.length c] w _
  go_enter Try.func29, Try.ntmps29
  go_upto_region 3 with fail
  have SH0 : Hid (((w.alloc (.cells #[.int .i64 2, .bool false, .bool marks, .func (.func 34) #[] #[], .func (.func 35) #[] #[]] 48)).alloc (.cells #[.int .i64 0, .int .i64 0, .int .i64 0, .int .i32 0, .int .i32 0, .int .i64 0, .int .i64 0, .int .u32 0, .int .i32 0] 32)).heap[w.heap.size]? = some (.cells #[.int .i64 2, .bool false, .bool marks, .func (.func 34) #[] #[], .func (.func 35) #[] #[]] 48 (0, 0))) := Lib.hid (blk_alloc (heap_alloc_new _ _) _)
  have BK0 : Hid (((w.alloc (.cells #[.int .i64 2, .bool false, .bool marks, .func (.func 34) #[] #[], .func (.func 35) #[] #[]] 48)).alloc (.cells #[.int .i64 0, .int .i64 0, .int .i64 0, .int .i32 0, .int .i32 0, .int .i64 0, .int .i64 0, .int .u32 0, .int .i32 0] 32)).heap[w.heap.size + 1]? = some (.cells #[.int .i64 0, .int .i64 0, .int .i64 0, .int .i32 0, .int .i32 0, .int .i64 0, .int .i64 0, .int .u32 0, .int .i32 0] 32 (0, 0))) := Lib.hid (blk_second _ _ _)
  have HB0 : Hid (Below w.heap.size w ((w.alloc (.cells #[.int .i64 2, .bool false, .bool marks, .func (.func 34) #[] #[], .func (.func 35) #[] #[]] 48)).alloc (.cells #[.int .i64 0, .int .i64 0, .int .i64 0, .int .i32 0, .int .i32 0, .int .i64 0, .int .i64 0, .int .u32 0, .int .i32 0] 32))) := Lib.hid (below_alloc (below_alloc (Below.refl _ _) _) _)
  generalize ((w.alloc (.cells #[.int .i64 2, .bool false, .bool marks, .func (.func 34) #[] #[], .func (.func 35) #[] #[]] 48)).alloc (.cells #[.int .i64 0, .int .i64 0, .int .i64 0, .int .i32 0, .int .i32 0, .int .i64 0, .int .i64 0, .int .u32 0, .int .i32 0] 32)) = W at *
  have e0 := blk_cell SH0.out 0
  have e1 := blk_cell SH0.out 1
  have e2 := blk_cell SH0.out 2
  have e3 := blk_cell SH0.out 3
  have e4 := blk_cell SH0.out 4
  go_quiet ((go_at_call 34; exact Calls.quiet_of_same (HNUM.out _ (pw_below_drewN HB0.out _))))
  clear e0 e1 e2 e3 e4
  have SH1 : Hid ((W.drewN nq).heap[w.heap.size]? = some (.cells #[.int .i64 2, .bool false, .bool marks, .func (.func 34) #[] #[], .func (.func 35) #[] #[]] 48 (0, 0))) := Lib.hid (blk_drewN SH0.out _)
  have BK1 : Hid ((W.drewN nq).heap[w.heap.size + 1]? = some (.cells #[.int .i64 0, .int .i64 0, .int .i64 0, .int .i32 0, .int .i32 0, .int .i64 0, .int .i64 0, .int .u32 0, .int .i32 0] 32 (0, 0))) := Lib.hid (blk_drewN BK0.out _)
  have HB1 : Hid (Below w.heap.size w (W.drewN nq)) := Lib.hid (pw_below_drewN HB0.out _)
  generalize W.drewN nq = W1 at *
  clear SH0 BK0 HB0
  have e0 := blk_cell SH1.out 0
  have e1 := blk_cell SH1.out 1
  have e2 := blk_cell SH1.out 2
  have e3 := blk_cell SH1.out 3
  have e4 := blk_cell SH1.out 4
  go_wp2_with fail
  refine (scalarC x _).mono ?_
  rintro e w2 ⟨rfl, ⟨m2, rfl⟩⟩
  rw [decide_eq_false HS.out]
  clear e0 e1 e2 e3 e4
  have SH2 : Hid ((W1.drewN m2).heap[w.heap.size]? = some (.cells #[.int .i64 2, .bool false, .bool marks, .func (.func 34) #[] #[], .func (.func 35) #[] #[]] 48 (0, 0))) := Lib.hid (blk_drewN SH1.out _)
  have BK2 : Hid ((W1.drewN m2).heap[w.heap.size + 1]? = some (.cells #[.int .i64 0, .int .i64 0, .int .i64 0, .int .i32 0, .int .i32 0, .int .i64 0, .int .i64 0, .int .u32 0, .int .i32 0] 32 (0, 0))) := Lib.hid (blk_drewN BK1.out _)
  have HB2 : Hid (Below w.heap.size w (W1.drewN m2)) := Lib.hid (pw_below_drewN HB1.out _)
  generalize W1.drewN m2 = W2 at *
  clear SH1 BK1 HB1
  have e0 := blk_cell SH2.out 0
  have e1 := blk_cell SH2.out 1
  have e2 := blk_cell SH2.out 2
  have e3 := blk_cell SH2.out 3
  have e4 := blk_cell SH2.out 4
  have r0 := blk_cell BK2.out 0
  have q0 := blk_frozen BK2.out 0
  have r1 := blk_cell BK2.out 1
  have q1 := blk_frozen BK2.out 1
  have r2 := blk_cell BK2.out 2
  have q2 := blk_frozen BK2.out 2
  have r3 := blk_cell BK2.out 3
  have q3 := blk_frozen BK2.out 3
  have r4 := blk_cell BK2.out 4
  have q4 := blk_frozen BK2.out 4
  have r5 := blk_cell BK2.out 5
  have q5 := blk_frozen BK2.out 5
  have r6 := blk_cell BK2.out 6
  have q6 := blk_frozen BK2.out 6
  have r7 := blk_cell BK2.out 7
  have q7 := blk_frozen BK2.out 7
  have r8 := blk_cell BK2.out 8
  have q8 := blk_frozen BK2.out 8
  go_wp2_with fail
  refine bodyPost_ret (results_cell_row rfl _ _ (w.heap.size + 1) 32 _ (0, 0) _ rfl (put9 BK2.out _ _ _ _ _ _ _ _ _) Try.underlying32 rfl (by kernel_rfl)) rfl ?_
  exact ⟨rfl, below9 HB2.out (Nat.le_succ _) _ _ _ _ _ _ _ _ _⟩
set_option maxHeartbeats 1000000 in
set_option maxRecDepth 100000 in
theorem sget_lone_false2 (marks : Bool) (A : Option Addr) (c : Nat) (l : List Int) (w : World) (hC : Kd.C (Kd.int .u8) w A l.length l) (hc : l.length ≤ c) (hb : ∀ x ∈ l, Byte x) (hl : 2 ≤ l.length) (hs : ¬ Scal (num false (l.take 2))) (hh : ¬ Hi (num false (l.take 2))) : Calls Try.prog 29 #[shV 2 true marks false, .slice A l.length c] w fun e w' => e = .returned (gotV 10 2 0 0 0) ∧ Below w.heap.size w w' := by
  obtain ⟨hsl, hnum⟩ := numAt false A c 2 l w hC hc hb (by omega) (by omega)
  have hxb := num_len hb false 2 (by omega)
  have HS := Lib.hid hs
  have HH := Lib.hid hh
  clear hs hh
  have HNUM := Lib.hid hnum
  clear hC hc hb hnum
  change ∀ W : World, (Instr.slice 30 (.slice A l.length c) none (some (.int .i64 2)) none).run Try.prog W = .ok (.slice A 2 c) W at hsl
  generalize num false (l.take 2) = x at *
  change Hid (∀ W : World, Below w.heap.size w W → Calls Try.prog 34 #[.slice A 2 c] W fun e w' => e = .returned (.int .u32 x) ∧ w' = W) at HNUM
  have hx0 : 0 ≤ x := hxb.1
  have hx1 : x ≤ 1114111 := by omega
  unfold shV
  change Calls Try.prog 29 #[.agg #[.int .i64 2, .bool true, .bool marks, .func (.func 34) #[] #[], .func (.func 35) #[] #[]], .slice A l.length c] w _
  go_enter Try.func29, Try.ntmps29
  go_upto_region 3 with fail
  have SH0 : Hid (((w.alloc (.cells #[.int .i64 2, .bool true, .bool marks, .func (.func 34) #[] #[], .func (.func 35) #[] #[]] 48)).alloc (.cells #[.int .i64 0, .int .i64 0, .int .i64 0, .int .i32 0, .int .i32 0, .int .i64 0, .int .i64 0, .int .u32 0, .int .i32 0] 32)).heap[w.heap.size]? = some (.cells #[.int .i64 2, .bool true, .bool marks, .func (.func 34) #[] #[], .func (.func 35) #[] #[]] 48 (0, 0))) := Lib.hid (blk_alloc (heap_alloc_new _ _) _)
  have BK0 : Hid (((w.alloc (.cells #[.int .i64 2, .bool true, .bool marks, .func (.func 34) #[] #[], .func (.func 35) #[] #[]] 48)).alloc (.cells #[.int .i64 0, .int .i64 0, .int .i64 0, .int .i32 0, .int .i32 0, .int .i64 0, .int .i64 0, .int .u32 0, .int .i32 0] 32)).heap[w.heap.size + 1]? = some (.cells #[.int .i64 0, .int .i64 0, .int .i64 0, .int .i32 0, .int .i32 0, .int .i64 0, .int .i64 0, .int .u32 0, .int .i32 0] 32 (0, 0))) := Lib.hid (blk_second _ _ _)
  have HB0 : Hid (Below w.heap.size w ((w.alloc (.cells #[.int .i64 2, .bool true, .bool marks, .func (.func 34) #[] #[], .func (.func 35) #[] #[]] 48)).alloc (.cells #[.int .i64 0, .int .i64 0, .int .i64 0, .int .i32 0, .int .i32 0, .int .i64 0, .int .i64 0, .int .u32 0, .int .i32 0] 32))) := Lib.hid (below_alloc (below_alloc (Below.refl _ _) _) _)
  generalize ((w.alloc (.cells #[.int .i64 2, .bool true, .bool marks, .func (.func 34) #[] #[], .func (.func 35) #[] #[]] 48)).alloc (.cells #[.int .i64 0, .int .i64 0, .int .i64 0, .int .i32 0, .int .i32 0, .int .i64 0, .int .i64 0, .int .u32 0, .int .i32 0] 32)) = W at *
  have e0 := blk_cell SH0.out 0
  have e1 := blk_cell SH0.out 1
  have e2 := blk_cell SH0.out 2
  have e3 := blk_cell SH0.out 3
  have e4 := blk_cell SH0.out 4
  go_quiet ((go_at_call 34; exact Calls.quiet_of_same (HNUM.out _ (pw_below_drewN HB0.out _))))
  clear e0 e1 e2 e3 e4
  have SH1 : Hid ((W.drewN nq).heap[w.heap.size]? = some (.cells #[.int .i64 2, .bool true, .bool marks, .func (.func 34) #[] #[], .func (.func 35) #[] #[]] 48 (0, 0))) := Lib.hid (blk_drewN SH0.out _)
  have BK1 : Hid ((W.drewN nq).heap[w.heap.size + 1]? = some (.cells #[.int .i64 0, .int .i64 0, .int .i64 0, .int .i32 0, .int .i32 0, .int .i64 0, .int .i64 0, .int .u32 0, .int .i32 0] 32 (0, 0))) := Lib.hid (blk_drewN BK0.out _)
  have HB1 : Hid (Below w.heap.size w (W.drewN nq)) := Lib.hid (pw_below_drewN HB0.out _)
  generalize W.drewN nq = W1 at *
  clear SH0 BK0 HB0
  have e0 := blk_cell SH1.out 0
  have e1 := blk_cell SH1.out 1
  have e2 := blk_cell SH1.out 2
  have e3 := blk_cell SH1.out 3
  have e4 := blk_cell SH1.out 4
  go_wp2_with fail
  refine (scalarC x _).mono ?_
  rintro e w2 ⟨rfl, ⟨m2, rfl⟩⟩
  rw [decide_eq_false HS.out]
  clear e0 e1 e2 e3 e4
  have SH2 : Hid ((W1.drewN m2).heap[w.heap.size]? = some (.cells #[.int .i64 2, .bool true, .bool marks, .func (.func 34) #[] #[], .func (.func 35) #[] #[]] 48 (0, 0))) := Lib.hid (blk_drewN SH1.out _)
  have BK2 : Hid ((W1.drewN m2).heap[w.heap.size + 1]? = some (.cells #[.int .i64 0, .int .i64 0, .int .i64 0, .int .i32 0, .int .i32 0, .int .i64 0, .int .i64 0, .int .u32 0, .int .i32 0] 32 (0, 0))) := Lib.hid (blk_drewN BK1.out _)
  have HB2 : Hid (Below w.heap.size w (W1.drewN m2)) := Lib.hid (pw_below_drewN HB1.out _)
  generalize W1.drewN m2 = W2 at *
  clear SH1 BK1 HB1
  have e0 := blk_cell SH2.out 0
  have e1 := blk_cell SH2.out 1
  have e2 := blk_cell SH2.out 2
  have e3 := blk_cell SH2.out 3
  have e4 := blk_cell SH2.out 4
  go_wp2_with fail
  refine (highC x _).mono ?_
  rintro e w2 ⟨rfl, ⟨m3, rfl⟩⟩
  rw [decide_eq_false HH.out]
  clear e0 e1 e2 e3 e4
  have SH3 : Hid ((W2.drewN m3).heap[w.heap.size]? = some (.cells #[.int .i64 2, .bool true, .bool marks, .func (.func 34) #[] #[], .func (.func 35) #[] #[]] 48 (0, 0))) := Lib.hid (blk_drewN SH2.out _)
  have BK3 : Hid ((W2.drewN m3).heap[w.heap.size + 1]? = some (.cells #[.int .i64 0, .int .i64 0, .int .i64 0, .int .i32 0, .int .i32 0, .int .i64 0, .int .i64 0, .int .u32 0, .int .i32 0] 32 (0, 0))) := Lib.hid (blk_drewN BK2.out _)
  have HB3 : Hid (Below w.heap.size w (W2.drewN m3)) := Lib.hid (pw_below_drewN HB2.out _)
  generalize W2.drewN m3 = W3 at *
  clear SH2 BK2 HB2
  have e0 := blk_cell SH3.out 0
  have e1 := blk_cell SH3.out 1
  have e2 := blk_cell SH3.out 2
  have e3 := blk_cell SH3.out 3
  have e4 := blk_cell SH3.out 4
  have r0 := blk_cell BK3.out 0
  have q0 := blk_frozen BK3.out 0
  have r1 := blk_cell BK3.out 1
  have q1 := blk_frozen BK3.out 1
  have r2 := blk_cell BK3.out 2
  have q2 := blk_frozen BK3.out 2
  have r3 := blk_cell BK3.out 3
  have q3 := blk_frozen BK3.out 3
  have r4 := blk_cell BK3.out 4
  have q4 := blk_frozen BK3.out 4
  have r5 := blk_cell BK3.out 5
  have q5 := blk_frozen BK3.out 5
  have r6 := blk_cell BK3.out 6
  have q6 := blk_frozen BK3.out 6
  have r7 := blk_cell BK3.out 7
  have q7 := blk_frozen BK3.out 7
  have r8 := blk_cell BK3.out 8
  have q8 := blk_frozen BK3.out 8
  go_wp2_with fail
  refine bodyPost_ret (results_cell_row rfl _ _ (w.heap.size + 1) 32 _ (0, 0) _ rfl (put9 BK3.out _ _ _ _ _ _ _ _ _) Try.underlying32 rfl (by kernel_rfl)) rfl ?_
  exact ⟨rfl, below9 HB3.out (Nat.le_succ _) _ _ _ _ _ _ _ _ _⟩
set_option maxHeartbeats 1000000 in
set_option maxRecDepth 100000 in
theorem sget_few_false2 (marks : Bool) (A : Option Addr) (c : Nat) (l : List Int) (w : World) (hC : Kd.C (Kd.int .u8) w A l.length l) (hc : l.length ≤ c) (hb : ∀ x ∈ l, Byte x) (hl : 2 ≤ l.length) (hl4 : l.length < 4) (hh : Hi (num false (l.take 2))) : Calls Try.prog 29 #[shV 2 true marks false, .slice A l.length c] w fun e w' => e = .returned (gotV 1 0 0 0 0) ∧ Below w.heap.size w w' := by
  obtain ⟨hsl, hnum⟩ := numAt false A c 2 l w hC hc hb (by omega) (by omega)
  have hxb := num_len hb false 2 (by omega)
  have HS := Lib.hid (hi_not hh)
  have HH := Lib.hid hh
  clear hh
  have HNUM := Lib.hid hnum
  clear hC hc hb hnum
  change ∀ W : World, (Instr.slice 30 (.slice A l.length c) none (some (.int .i64 2)) none).run Try.prog W = .ok (.slice A 2 c) W at hsl
  generalize num false (l.take 2) = x at *
  change Hid (∀ W : World, Below w.heap.size w W → Calls Try.prog 34 #[.slice A 2 c] W fun e w' => e = .returned (.int .u32 x) ∧ w' = W) at HNUM
  have hx0 : 0 ≤ x := hxb.1
  have hx1 : x ≤ 1114111 := by omega
  unfold shV
  change Calls Try.prog 29 #[.agg #[.int .i64 2, .bool true, .bool marks, .func (.func 34) #[] #[], .func (.func 35) #[] #[]], .slice A l.length c] w _
  go_enter Try.func29, Try.ntmps29
  go_upto_region 3 with fail
  have SH0 : Hid (((w.alloc (.cells #[.int .i64 2, .bool true, .bool marks, .func (.func 34) #[] #[], .func (.func 35) #[] #[]] 48)).alloc (.cells #[.int .i64 0, .int .i64 0, .int .i64 0, .int .i32 0, .int .i32 0, .int .i64 0, .int .i64 0, .int .u32 0, .int .i32 0] 32)).heap[w.heap.size]? = some (.cells #[.int .i64 2, .bool true, .bool marks, .func (.func 34) #[] #[], .func (.func 35) #[] #[]] 48 (0, 0))) := Lib.hid (blk_alloc (heap_alloc_new _ _) _)
  have BK0 : Hid (((w.alloc (.cells #[.int .i64 2, .bool true, .bool marks, .func (.func 34) #[] #[], .func (.func 35) #[] #[]] 48)).alloc (.cells #[.int .i64 0, .int .i64 0, .int .i64 0, .int .i32 0, .int .i32 0, .int .i64 0, .int .i64 0, .int .u32 0, .int .i32 0] 32)).heap[w.heap.size + 1]? = some (.cells #[.int .i64 0, .int .i64 0, .int .i64 0, .int .i32 0, .int .i32 0, .int .i64 0, .int .i64 0, .int .u32 0, .int .i32 0] 32 (0, 0))) := Lib.hid (blk_second _ _ _)
  have HB0 : Hid (Below w.heap.size w ((w.alloc (.cells #[.int .i64 2, .bool true, .bool marks, .func (.func 34) #[] #[], .func (.func 35) #[] #[]] 48)).alloc (.cells #[.int .i64 0, .int .i64 0, .int .i64 0, .int .i32 0, .int .i32 0, .int .i64 0, .int .i64 0, .int .u32 0, .int .i32 0] 32))) := Lib.hid (below_alloc (below_alloc (Below.refl _ _) _) _)
  generalize ((w.alloc (.cells #[.int .i64 2, .bool true, .bool marks, .func (.func 34) #[] #[], .func (.func 35) #[] #[]] 48)).alloc (.cells #[.int .i64 0, .int .i64 0, .int .i64 0, .int .i32 0, .int .i32 0, .int .i64 0, .int .i64 0, .int .u32 0, .int .i32 0] 32)) = W at *
  have e0 := blk_cell SH0.out 0
  have e1 := blk_cell SH0.out 1
  have e2 := blk_cell SH0.out 2
  have e3 := blk_cell SH0.out 3
  have e4 := blk_cell SH0.out 4
  go_quiet ((go_at_call 34; exact Calls.quiet_of_same (HNUM.out _ (pw_below_drewN HB0.out _))))
  clear e0 e1 e2 e3 e4
  have SH1 : Hid ((W.drewN nq).heap[w.heap.size]? = some (.cells #[.int .i64 2, .bool true, .bool marks, .func (.func 34) #[] #[], .func (.func 35) #[] #[]] 48 (0, 0))) := Lib.hid (blk_drewN SH0.out _)
  have BK1 : Hid ((W.drewN nq).heap[w.heap.size + 1]? = some (.cells #[.int .i64 0, .int .i64 0, .int .i64 0, .int .i32 0, .int .i32 0, .int .i64 0, .int .i64 0, .int .u32 0, .int .i32 0] 32 (0, 0))) := Lib.hid (blk_drewN BK0.out _)
  have HB1 : Hid (Below w.heap.size w (W.drewN nq)) := Lib.hid (pw_below_drewN HB0.out _)
  generalize W.drewN nq = W1 at *
  clear SH0 BK0 HB0
  have e0 := blk_cell SH1.out 0
  have e1 := blk_cell SH1.out 1
  have e2 := blk_cell SH1.out 2
  have e3 := blk_cell SH1.out 3
  have e4 := blk_cell SH1.out 4
  go_wp2_with fail
  refine (scalarC x _).mono ?_
  rintro e w2 ⟨rfl, ⟨m2, rfl⟩⟩
  rw [decide_eq_false HS.out]
  clear e0 e1 e2 e3 e4
  have SH2 : Hid ((W1.drewN m2).heap[w.heap.size]? = some (.cells #[.int .i64 2, .bool true, .bool marks, .func (.func 34) #[] #[], .func (.func 35) #[] #[]] 48 (0, 0))) := Lib.hid (blk_drewN SH1.out _)
  have BK2 : Hid ((W1.drewN m2).heap[w.heap.size + 1]? = some (.cells #[.int .i64 0, .int .i64 0, .int .i64 0, .int .i32 0, .int .i32 0, .int .i64 0, .int .i64 0, .int .u32 0, .int .i32 0] 32 (0, 0))) := Lib.hid (blk_drewN BK1.out _)
  have HB2 : Hid (Below w.heap.size w (W1.drewN m2)) := Lib.hid (pw_below_drewN HB1.out _)
  generalize W1.drewN m2 = W2 at *
  clear SH1 BK1 HB1
  have e0 := blk_cell SH2.out 0
  have e1 := blk_cell SH2.out 1
  have e2 := blk_cell SH2.out 2
  have e3 := blk_cell SH2.out 3
  have e4 := blk_cell SH2.out 4
  go_wp2_with fail
  refine (highC x _).mono ?_
  rintro e w2 ⟨rfl, ⟨m3, rfl⟩⟩
  rw [decide_eq_true HH.out]
  clear e0 e1 e2 e3 e4
  have SH3 : Hid ((W2.drewN m3).heap[w.heap.size]? = some (.cells #[.int .i64 2, .bool true, .bool marks, .func (.func 34) #[] #[], .func (.func 35) #[] #[]] 48 (0, 0))) := Lib.hid (blk_drewN SH2.out _)
  have BK3 : Hid ((W2.drewN m3).heap[w.heap.size + 1]? = some (.cells #[.int .i64 0, .int .i64 0, .int .i64 0, .int .i32 0, .int .i32 0, .int .i64 0, .int .i64 0, .int .u32 0, .int .i32 0] 32 (0, 0))) := Lib.hid (blk_drewN BK2.out _)
  have HB3 : Hid (Below w.heap.size w (W2.drewN m3)) := Lib.hid (pw_below_drewN HB2.out _)
  generalize W2.drewN m3 = W3 at *
  clear SH2 BK2 HB2
  have e0 := blk_cell SH3.out 0
  have e1 := blk_cell SH3.out 1
  have e2 := blk_cell SH3.out 2
  have e3 := blk_cell SH3.out 3
  have e4 := blk_cell SH3.out 4
  have r0 := blk_cell BK3.out 0
  have q0 := blk_frozen BK3.out 0
  have r1 := blk_cell BK3.out 1
  have q1 := blk_frozen BK3.out 1
  have r2 := blk_cell BK3.out 2
  have q2 := blk_frozen BK3.out 2
  have r3 := blk_cell BK3.out 3
  have q3 := blk_frozen BK3.out 3
  have r4 := blk_cell BK3.out 4
  have q4 := blk_frozen BK3.out 4
  have r5 := blk_cell BK3.out 5
  have q5 := blk_frozen BK3.out 5
  have r6 := blk_cell BK3.out 6
  have q6 := blk_frozen BK3.out 6
  have r7 := blk_cell BK3.out 7
  have q7 := blk_frozen BK3.out 7
  have r8 := blk_cell BK3.out 8
  have q8 := blk_frozen BK3.out 8
  go_wp2_with fail
  refine bodyPost_ret (results_cell_row rfl _ _ (w.heap.size + 1) 32 _ (0, 0) _ rfl (put9 BK3.out _ _ _ _ _ _ _ _ _) Try.underlying32 rfl (by kernel_rfl)) rfl ?_
  exact ⟨rfl, below9 HB3.out (Nat.le_succ _) _ _ _ _ _ _ _ _ _⟩
set_option maxHeartbeats 1000000 in
set_option maxRecDepth 100000 in
theorem sget_sc_true2 (pairs marks : Bool) (A : Option Addr) (c : Nat) (l : List Int) (w : World) (hC : Kd.C (Kd.int .u8) w A l.length l) (hc : l.length ≤ c) (hb : ∀ x ∈ l, Byte x) (hl : 2 ≤ l.length) (hs : Scal (num true (l.take 2))) : Calls Try.prog 29 #[shV 2 pairs marks true, .slice A l.length c] w fun e w' => e = .returned (gotV 0 2 1 (num true (l.take 2)) 0) ∧ Below w.heap.size w w' := by
  obtain ⟨hsl, hnum⟩ := numAt true A c 2 l w hC hc hb (by omega) (by omega)
  have hxb := num_len hb true 2 (by omega)
  have HS := Lib.hid hs
  clear hs
  have HNUM := Lib.hid hnum
  clear hC hc hb hnum
  change ∀ W : World, (Instr.slice 30 (.slice A l.length c) none (some (.int .i64 2)) none).run Try.prog W = .ok (.slice A 2 c) W at hsl
  generalize num true (l.take 2) = x at *
  change Hid (∀ W : World, Below w.heap.size w W → Calls Try.prog 36 #[.slice A 2 c] W fun e w' => e = .returned (.int .u32 x) ∧ w' = W) at HNUM
  have hx0 : 0 ≤ x := HS.out.1
  have hx1 : x ≤ 1114111 := HS.out.2.1
  unfold shV
  change Calls Try.prog 29 #[.agg #[.int .i64 2, .bool pairs, .bool marks, .func (.func 36) #[] #[], .func (.func 37) #[] #[]], .slice A l.length c] w _
  go_enter Try.func29, Try.ntmps29
  go_upto_region 3 with fail
  have SH0 : Hid (((w.alloc (.cells #[.int .i64 2, .bool pairs, .bool marks, .func (.func 36) #[] #[], .func (.func 37) #[] #[]] 48)).alloc (.cells #[.int .i64 0, .int .i64 0, .int .i64 0, .int .i32 0, .int .i32 0, .int .i64 0, .int .i64 0, .int .u32 0, .int .i32 0] 32)).heap[w.heap.size]? = some (.cells #[.int .i64 2, .bool pairs, .bool marks, .func (.func 36) #[] #[], .func (.func 37) #[] #[]] 48 (0, 0))) := Lib.hid (blk_alloc (heap_alloc_new _ _) _)
  have BK0 : Hid (((w.alloc (.cells #[.int .i64 2, .bool pairs, .bool marks, .func (.func 36) #[] #[], .func (.func 37) #[] #[]] 48)).alloc (.cells #[.int .i64 0, .int .i64 0, .int .i64 0, .int .i32 0, .int .i32 0, .int .i64 0, .int .i64 0, .int .u32 0, .int .i32 0] 32)).heap[w.heap.size + 1]? = some (.cells #[.int .i64 0, .int .i64 0, .int .i64 0, .int .i32 0, .int .i32 0, .int .i64 0, .int .i64 0, .int .u32 0, .int .i32 0] 32 (0, 0))) := Lib.hid (blk_second _ _ _)
  have HB0 : Hid (Below w.heap.size w ((w.alloc (.cells #[.int .i64 2, .bool pairs, .bool marks, .func (.func 36) #[] #[], .func (.func 37) #[] #[]] 48)).alloc (.cells #[.int .i64 0, .int .i64 0, .int .i64 0, .int .i32 0, .int .i32 0, .int .i64 0, .int .i64 0, .int .u32 0, .int .i32 0] 32))) := Lib.hid (below_alloc (below_alloc (Below.refl _ _) _) _)
  generalize ((w.alloc (.cells #[.int .i64 2, .bool pairs, .bool marks, .func (.func 36) #[] #[], .func (.func 37) #[] #[]] 48)).alloc (.cells #[.int .i64 0, .int .i64 0, .int .i64 0, .int .i32 0, .int .i32 0, .int .i64 0, .int .i64 0, .int .u32 0, .int .i32 0] 32)) = W at *
  have e0 := blk_cell SH0.out 0
  have e1 := blk_cell SH0.out 1
  have e2 := blk_cell SH0.out 2
  have e3 := blk_cell SH0.out 3
  have e4 := blk_cell SH0.out 4
  go_quiet ((go_at_call 36; exact Calls.quiet_of_same (HNUM.out _ (pw_below_drewN HB0.out _))))
  clear e0 e1 e2 e3 e4
  have SH1 : Hid ((W.drewN nq).heap[w.heap.size]? = some (.cells #[.int .i64 2, .bool pairs, .bool marks, .func (.func 36) #[] #[], .func (.func 37) #[] #[]] 48 (0, 0))) := Lib.hid (blk_drewN SH0.out _)
  have BK1 : Hid ((W.drewN nq).heap[w.heap.size + 1]? = some (.cells #[.int .i64 0, .int .i64 0, .int .i64 0, .int .i32 0, .int .i32 0, .int .i64 0, .int .i64 0, .int .u32 0, .int .i32 0] 32 (0, 0))) := Lib.hid (blk_drewN BK0.out _)
  have HB1 : Hid (Below w.heap.size w (W.drewN nq)) := Lib.hid (pw_below_drewN HB0.out _)
  generalize W.drewN nq = W1 at *
  clear SH0 BK0 HB0
  have e0 := blk_cell SH1.out 0
  have e1 := blk_cell SH1.out 1
  have e2 := blk_cell SH1.out 2
  have e3 := blk_cell SH1.out 3
  have e4 := blk_cell SH1.out 4
  go_wp2_with fail
  refine (scalarC x _).mono ?_
  rintro e w2 ⟨rfl, ⟨m2, rfl⟩⟩
  rw [decide_eq_true HS.out]
  clear e0 e1 e2 e3 e4
  have SH2 : Hid ((W1.drewN m2).heap[w.heap.size]? = some (.cells #[.int .i64 2, .bool pairs, .bool marks, .func (.func 36) #[] #[], .func (.func 37) #[] #[]] 48 (0, 0))) := Lib.hid (blk_drewN SH1.out _)
  have BK2 : Hid ((W1.drewN m2).heap[w.heap.size + 1]? = some (.cells #[.int .i64 0, .int .i64 0, .int .i64 0, .int .i32 0, .int .i32 0, .int .i64 0, .int .i64 0, .int .u32 0, .int .i32 0] 32 (0, 0))) := Lib.hid (blk_drewN BK1.out _)
  have HB2 : Hid (Below w.heap.size w (W1.drewN m2)) := Lib.hid (pw_below_drewN HB1.out _)
  generalize W1.drewN m2 = W2 at *
  clear SH1 BK1 HB1
  have e0 := blk_cell SH2.out 0
  have e1 := blk_cell SH2.out 1
  have e2 := blk_cell SH2.out 2
  have e3 := blk_cell SH2.out 3
  have e4 := blk_cell SH2.out 4
  have r0 := blk_cell BK2.out 0
  have q0 := blk_frozen BK2.out 0
  have r1 := blk_cell BK2.out 1
  have q1 := blk_frozen BK2.out 1
  have r2 := blk_cell BK2.out 2
  have q2 := blk_frozen BK2.out 2
  have r3 := blk_cell BK2.out 3
  have q3 := blk_frozen BK2.out 3
  have r4 := blk_cell BK2.out 4
  have q4 := blk_frozen BK2.out 4
  have r5 := blk_cell BK2.out 5
  have q5 := blk_frozen BK2.out 5
  have r6 := blk_cell BK2.out 6
  have q6 := blk_frozen BK2.out 6
  have r7 := blk_cell BK2.out 7
  have q7 := blk_frozen BK2.out 7
  have r8 := blk_cell BK2.out 8
  have q8 := blk_frozen BK2.out 8
  go_wp2_with fail
  refine bodyPost_ret (results_cell_row rfl _ _ (w.heap.size + 1) 32 _ (0, 0) _ rfl (put9 BK2.out _ _ _ _ _ _ _ _ _) Try.underlying32 rfl (by kernel_rfl)) rfl ?_
  exact ⟨rfl, below9 HB2.out (Nat.le_succ _) _ _ _ _ _ _ _ _ _⟩
set_option maxHeartbeats 1000000 in
set_option maxRecDepth 100000 in
theorem sget_sc_true4 (pairs marks : Bool) (A : Option Addr) (c : Nat) (l : List Int) (w : World) (hC : Kd.C (Kd.int .u8) w A l.length l) (hc : l.length ≤ c) (hb : ∀ x ∈ l, Byte x) (hl : 4 ≤ l.length) (hs : Scal (num true (l.take 4))) : Calls Try.prog 29 #[shV 4 pairs marks true, .slice A l.length c] w fun e w' => e = .returned (gotV 0 4 1 (num true (l.take 4)) 0) ∧ Below w.heap.size w w' := by
  obtain ⟨hsl, hnum⟩ := numAt true A c 4 l w hC hc hb (by omega) (by omega)
  have hxb := num_len hb true 4 (by omega)
  have HS := Lib.hid hs
  clear hs
  have HNUM := Lib.hid hnum
  clear hC hc hb hnum
  change ∀ W : World, (Instr.slice 30 (.slice A l.length c) none (some (.int .i64 4)) none).run Try.prog W = .ok (.slice A 4 c) W at hsl
  generalize num true (l.take 4) = x at *
  change Hid (∀ W : World, Below w.heap.size w W → Calls Try.prog 36 #[.slice A 4 c] W fun e w' => e = .returned (.int .u32 x) ∧ w' = W) at HNUM
  have hx0 : 0 ≤ x := HS.out.1
  have hx1 : x ≤ 1114111 := HS.out.2.1
  unfold shV
  change Calls Try.prog 29 #[.agg #[.int .i64 4, .bool pairs, .bool marks, .func (.func 36) #[] #[], .func (.func 37) #[] #[]], .slice A l.length c] w _
  go_enter Try.func29, Try.ntmps29
  go_upto_region 3 with fail
  have SH0 : Hid (((w.alloc (.cells #[.int .i64 4, .bool pairs, .bool marks, .func (.func 36) #[] #[], .func (.func 37) #[] #[]] 48)).alloc (.cells #[.int .i64 0, .int .i64 0, .int .i64 0, .int .i32 0, .int .i32 0, .int .i64 0, .int .i64 0, .int .u32 0, .int .i32 0] 32)).heap[w.heap.size]? = some (.cells #[.int .i64 4, .bool pairs, .bool marks, .func (.func 36) #[] #[], .func (.func 37) #[] #[]] 48 (0, 0))) := Lib.hid (blk_alloc (heap_alloc_new _ _) _)
  have BK0 : Hid (((w.alloc (.cells #[.int .i64 4, .bool pairs, .bool marks, .func (.func 36) #[] #[], .func (.func 37) #[] #[]] 48)).alloc (.cells #[.int .i64 0, .int .i64 0, .int .i64 0, .int .i32 0, .int .i32 0, .int .i64 0, .int .i64 0, .int .u32 0, .int .i32 0] 32)).heap[w.heap.size + 1]? = some (.cells #[.int .i64 0, .int .i64 0, .int .i64 0, .int .i32 0, .int .i32 0, .int .i64 0, .int .i64 0, .int .u32 0, .int .i32 0] 32 (0, 0))) := Lib.hid (blk_second _ _ _)
  have HB0 : Hid (Below w.heap.size w ((w.alloc (.cells #[.int .i64 4, .bool pairs, .bool marks, .func (.func 36) #[] #[], .func (.func 37) #[] #[]] 48)).alloc (.cells #[.int .i64 0, .int .i64 0, .int .i64 0, .int .i32 0, .int .i32 0, .int .i64 0, .int .i64 0, .int .u32 0, .int .i32 0] 32))) := Lib.hid (below_alloc (below_alloc (Below.refl _ _) _) _)
  generalize ((w.alloc (.cells #[.int .i64 4, .bool pairs, .bool marks, .func (.func 36) #[] #[], .func (.func 37) #[] #[]] 48)).alloc (.cells #[.int .i64 0, .int .i64 0, .int .i64 0, .int .i32 0, .int .i32 0, .int .i64 0, .int .i64 0, .int .u32 0, .int .i32 0] 32)) = W at *
  have e0 := blk_cell SH0.out 0
  have e1 := blk_cell SH0.out 1
  have e2 := blk_cell SH0.out 2
  have e3 := blk_cell SH0.out 3
  have e4 := blk_cell SH0.out 4
  go_quiet ((go_at_call 36; exact Calls.quiet_of_same (HNUM.out _ (pw_below_drewN HB0.out _))))
  clear e0 e1 e2 e3 e4
  have SH1 : Hid ((W.drewN nq).heap[w.heap.size]? = some (.cells #[.int .i64 4, .bool pairs, .bool marks, .func (.func 36) #[] #[], .func (.func 37) #[] #[]] 48 (0, 0))) := Lib.hid (blk_drewN SH0.out _)
  have BK1 : Hid ((W.drewN nq).heap[w.heap.size + 1]? = some (.cells #[.int .i64 0, .int .i64 0, .int .i64 0, .int .i32 0, .int .i32 0, .int .i64 0, .int .i64 0, .int .u32 0, .int .i32 0] 32 (0, 0))) := Lib.hid (blk_drewN BK0.out _)
  have HB1 : Hid (Below w.heap.size w (W.drewN nq)) := Lib.hid (pw_below_drewN HB0.out _)
  generalize W.drewN nq = W1 at *
  clear SH0 BK0 HB0
  have e0 := blk_cell SH1.out 0
  have e1 := blk_cell SH1.out 1
  have e2 := blk_cell SH1.out 2
  have e3 := blk_cell SH1.out 3
  have e4 := blk_cell SH1.out 4
  go_wp2_with fail
  refine (scalarC x _).mono ?_
  rintro e w2 ⟨rfl, ⟨m2, rfl⟩⟩
  rw [decide_eq_true HS.out]
  clear e0 e1 e2 e3 e4
  have SH2 : Hid ((W1.drewN m2).heap[w.heap.size]? = some (.cells #[.int .i64 4, .bool pairs, .bool marks, .func (.func 36) #[] #[], .func (.func 37) #[] #[]] 48 (0, 0))) := Lib.hid (blk_drewN SH1.out _)
  have BK2 : Hid ((W1.drewN m2).heap[w.heap.size + 1]? = some (.cells #[.int .i64 0, .int .i64 0, .int .i64 0, .int .i32 0, .int .i32 0, .int .i64 0, .int .i64 0, .int .u32 0, .int .i32 0] 32 (0, 0))) := Lib.hid (blk_drewN BK1.out _)
  have HB2 : Hid (Below w.heap.size w (W1.drewN m2)) := Lib.hid (pw_below_drewN HB1.out _)
  generalize W1.drewN m2 = W2 at *
  clear SH1 BK1 HB1
  have e0 := blk_cell SH2.out 0
  have e1 := blk_cell SH2.out 1
  have e2 := blk_cell SH2.out 2
  have e3 := blk_cell SH2.out 3
  have e4 := blk_cell SH2.out 4
  have r0 := blk_cell BK2.out 0
  have q0 := blk_frozen BK2.out 0
  have r1 := blk_cell BK2.out 1
  have q1 := blk_frozen BK2.out 1
  have r2 := blk_cell BK2.out 2
  have q2 := blk_frozen BK2.out 2
  have r3 := blk_cell BK2.out 3
  have q3 := blk_frozen BK2.out 3
  have r4 := blk_cell BK2.out 4
  have q4 := blk_frozen BK2.out 4
  have r5 := blk_cell BK2.out 5
  have q5 := blk_frozen BK2.out 5
  have r6 := blk_cell BK2.out 6
  have q6 := blk_frozen BK2.out 6
  have r7 := blk_cell BK2.out 7
  have q7 := blk_frozen BK2.out 7
  have r8 := blk_cell BK2.out 8
  have q8 := blk_frozen BK2.out 8
  go_wp2_with fail
  refine bodyPost_ret (results_cell_row rfl _ _ (w.heap.size + 1) 32 _ (0, 0) _ rfl (put9 BK2.out _ _ _ _ _ _ _ _ _) Try.underlying32 rfl (by kernel_rfl)) rfl ?_
  exact ⟨rfl, below9 HB2.out (Nat.le_succ _) _ _ _ _ _ _ _ _ _⟩
set_option maxHeartbeats 1000000 in
set_option maxRecDepth 100000 in
theorem sget_big_true4 (marks : Bool) (A : Option Addr) (c : Nat) (l : List Int) (w : World) (hC : Kd.C (Kd.int .u8) w A l.length l) (hc : l.length ≤ c) (hb : ∀ x ∈ l, Byte x) (hl : 4 ≤ l.length) (hs : 1114111 < num true (l.take 4)) : Calls Try.prog 29 #[shV 4 false marks true, .slice A l.length c] w fun e w' => e = .returned (gotV 10 4 0 0 0) ∧ Below w.heap.size w w' := by
  obtain ⟨hsl, hnum⟩ := numAt true A c 4 l w hC hc hb (by omega) (by omega)
  have hxb := num_len hb true 4 (by omega)
  have HNUM := Lib.hid hnum
  clear hC hc hb hnum
  change ∀ W : World, (Instr.slice 30 (.slice A l.length c) none (some (.int .i64 4)) none).run Try.prog W = .ok (.slice A 4 c) W at hsl
  generalize num true (l.take 4) = x at *
  change Hid (∀ W : World, Below w.heap.size w W → Calls Try.prog 36 #[.slice A 4 c] W fun e w' => e = .returned (.int .u32 x) ∧ w' = W) at HNUM
  have hx0 : 0 ≤ x := hxb.1
  unfold shV
  change Calls Try.prog 29 #[.agg #[.int .i64 4, .bool false, .bool marks, .func (.func 36) #[] #[], .func (.func 37) #[] #[]], .slice A l.length c] w _
  go_enter Try.func29, Try.ntmps29
  go_upto_region 3 with fail
  have SH0 : Hid (((w.alloc (.cells #[.int .i64 4, .bool false, .bool marks, .func (.func 36) #[] #[], .func (.func 37) #[] #[]] 48)).alloc (.cells #[.int .i64 0, .int .i64 0, .int .i64 0, .int .i32 0, .int .i32 0, .int .i64 0, .int .i64 0, .int .u32 0, .int .i32 0] 32)).heap[w.heap.size]? = some (.cells #[.int .i64 4, .bool false, .bool marks, .func (.func 36) #[] #[], .func (.func 37) #[] #[]] 48 (0, 0))) := Lib.hid (blk_alloc (heap_alloc_new _ _) _)
  have BK0 : Hid (((w.alloc (.cells #[.int .i64 4, .bool false, .bool marks, .func (.func 36) #[] #[], .func (.func 37) #[] #[]] 48)).alloc (.cells #[.int .i64 0, .int .i64 0, .int .i64 0, .int .i32 0, .int .i32 0, .int .i64 0, .int .i64 0, .int .u32 0, .int .i32 0] 32)).heap[w.heap.size + 1]? = some (.cells #[.int .i64 0, .int .i64 0, .int .i64 0, .int .i32 0, .int .i32 0, .int .i64 0, .int .i64 0, .int .u32 0, .int .i32 0] 32 (0, 0))) := Lib.hid (blk_second _ _ _)
  have HB0 : Hid (Below w.heap.size w ((w.alloc (.cells #[.int .i64 4, .bool false, .bool marks, .func (.func 36) #[] #[], .func (.func 37) #[] #[]] 48)).alloc (.cells #[.int .i64 0, .int .i64 0, .int .i64 0, .int .i32 0, .int .i32 0, .int .i64 0, .int .i64 0, .int .u32 0, .int .i32 0] 32))) := Lib.hid (below_alloc (below_alloc (Below.refl _ _) _) _)
  generalize ((w.alloc (.cells #[.int .i64 4, .bool false, .bool marks, .func (.func 36) #[] #[], .func (.func 37) #[] #[]] 48)).alloc (.cells #[.int .i64 0, .int .i64 0, .int .i64 0, .int .i32 0, .int .i32 0, .int .i64 0, .int .i64 0, .int .u32 0, .int .i32 0] 32)) = W at *
  have e0 := blk_cell SH0.out 0
  have e1 := blk_cell SH0.out 1
  have e2 := blk_cell SH0.out 2
  have e3 := blk_cell SH0.out 3
  have e4 := blk_cell SH0.out 4
  go_quiet ((go_at_call 36; exact Calls.quiet_of_same (HNUM.out _ (pw_below_drewN HB0.out _))))
  clear e0 e1 e2 e3 e4
  have SH1 : Hid ((W.drewN nq).heap[w.heap.size]? = some (.cells #[.int .i64 4, .bool false, .bool marks, .func (.func 36) #[] #[], .func (.func 37) #[] #[]] 48 (0, 0))) := Lib.hid (blk_drewN SH0.out _)
  have BK1 : Hid ((W.drewN nq).heap[w.heap.size + 1]? = some (.cells #[.int .i64 0, .int .i64 0, .int .i64 0, .int .i32 0, .int .i32 0, .int .i64 0, .int .i64 0, .int .u32 0, .int .i32 0] 32 (0, 0))) := Lib.hid (blk_drewN BK0.out _)
  have HB1 : Hid (Below w.heap.size w (W.drewN nq)) := Lib.hid (pw_below_drewN HB0.out _)
  generalize W.drewN nq = W1 at *
  clear SH0 BK0 HB0
  have e0 := blk_cell SH1.out 0
  have e1 := blk_cell SH1.out 1
  have e2 := blk_cell SH1.out 2
  have e3 := blk_cell SH1.out 3
  have e4 := blk_cell SH1.out 4
  have r0 := blk_cell BK1.out 0
  have q0 := blk_frozen BK1.out 0
  have r1 := blk_cell BK1.out 1
  have q1 := blk_frozen BK1.out 1
  have r2 := blk_cell BK1.out 2
  have q2 := blk_frozen BK1.out 2
  have r3 := blk_cell BK1.out 3
  have q3 := blk_frozen BK1.out 3
  have r4 := blk_cell BK1.out 4
  have q4 := blk_frozen BK1.out 4
  have r5 := blk_cell BK1.out 5
  have q5 := blk_frozen BK1.out 5
  have r6 := blk_cell BK1.out 6
  have q6 := blk_frozen BK1.out 6
  have r7 := blk_cell BK1.out 7
  have q7 := blk_frozen BK1.out 7
  have r8 := blk_cell BK1.out 8
  have q8 := blk_frozen BK1.out 8
  go_wp2_with fail
  refine bodyPost_ret (results_cell_row rfl _ _ (w.heap.size + 1) 32 _ (0, 0) _ rfl (put9 BK1.out _ _ _ _ _ _ _ _ _) Try.underlying32 rfl (by kernel_rfl)) rfl ?_
  exact ⟨rfl, below9 HB1.out (Nat.le_succ _) _ _ _ _ _ _ _ _ _⟩
set_option maxHeartbeats 1000000 in
set_option maxRecDepth 100000 in
theorem sget_no_true4 (marks : Bool) (A : Option Addr) (c : Nat) (l : List Int) (w : World) (hC : Kd.C (Kd.int .u8) w A l.length l) (hc : l.length ≤ c) (hb : ∀ x ∈ l, Byte x) (hl : 4 ≤ l.length) (hs : ¬ Scal (num true (l.take 4))) (hx1 : num true (l.take 4) ≤ 1114111) : Calls Try.prog 29 #[shV 4 false marks true, .slice A l.length c] w fun e w' => e = .returned (gotV 10 4 0 0 0) ∧ Below w.heap.size w w' := by
  obtain ⟨hsl, hnum⟩ := numAt true A c 4 l w hC hc hb (by omega) (by omega)
  have hxb := num_len hb true 4 (by omega)
  have HS := Lib.hid hs
  clear hs
  have HNUM := Lib.hid hnum
  clear hC hc hb hnum
  change ∀ W : World, (Instr.slice 30 (.slice A l.length c) none (some (.int .i64 4)) none).run Try.prog W = .ok (.slice A 4 c) W at hsl
  generalize num true (l.take 4) = x at *
  change Hid (∀ W : World, Below w.heap.size w W → Calls Try.prog 36 #[.slice A 4 c] W fun e w' => e = .returned (.int .u32 x) ∧ w' = W) at HNUM
  have hx0 : 0 ≤ x := hxb.1
  unfold shV
  change Calls Try.prog 29 #[.agg #[.int .i64 4, .bool false, .bool marks, .func (.func 36) #[] #[], .func (.func 37) #[] #[]], .slice A l.length c] w _
  go_enter Try.func29, Try.ntmps29
  go_upto_region 3 with fail
  have SH0 : Hid (((w.alloc (.cells #[.int .i64 4, .bool false, .bool marks, .func (.func 36) #[] #[], .func (.func 37) #[] #[]] 48)).alloc (.cells #[.int .i64 0, .int .i64 0, .int .i64 0, .int .i32 0, .int .i32 0, .int .i64 0, .int .i64 0, .int .u32 0, .int .i32 0] 32)).heap[w.heap.size]? = some (.cells #[.int .i64 4, .bool false, .bool marks, .func (.func 36) #[] #[], .func (.func 37) #[] #[]] 48 (0, 0))) := Lib.hid (blk_alloc (heap_alloc_new _ _) _)
  have BK0 : Hid (((w.alloc (.cells #[.int .i64 4, .bool false, .bool marks, .func (.func 36) #[] #[], .func (.func 37) #[] #[]] 48)).alloc (.cells #[.int .i64 0, .int .i64 0, .int .i64 0, .int .i32 0, .int .i32 0, .int .i64 0, .int .i64 0, .int .u32 0, .int .i32 0] 32)).heap[w.heap.size + 1]? = some (.cells #[.int .i64 0, .int .i64 0, .int .i64 0, .int .i32 0, .int .i32 0, .int .i64 0, .int .i64 0, .int .u32 0, .int .i32 0] 32 (0, 0))) := Lib.hid (blk_second _ _ _)
  have HB0 : Hid (Below w.heap.size w ((w.alloc (.cells #[.int .i64 4, .bool false, .bool marks, .func (.func 36) #[] #[], .func (.func 37) #[] #[]] 48)).alloc (.cells #[.int .i64 0, .int .i64 0, .int .i64 0, .int .i32 0, .int .i32 0, .int .i64 0, .int .i64 0, .int .u32 0, .int .i32 0] 32))) := Lib.hid (below_alloc (below_alloc (Below.refl _ _) _) _)
  generalize ((w.alloc (.cells #[.int .i64 4, .bool false, .bool marks, .func (.func 36) #[] #[], .func (.func 37) #[] #[]] 48)).alloc (.cells #[.int .i64 0, .int .i64 0, .int .i64 0, .int .i32 0, .int .i32 0, .int .i64 0, .int .i64 0, .int .u32 0, .int .i32 0] 32)) = W at *
  have e0 := blk_cell SH0.out 0
  have e1 := blk_cell SH0.out 1
  have e2 := blk_cell SH0.out 2
  have e3 := blk_cell SH0.out 3
  have e4 := blk_cell SH0.out 4
  go_quiet ((go_at_call 36; exact Calls.quiet_of_same (HNUM.out _ (pw_below_drewN HB0.out _))))
  clear e0 e1 e2 e3 e4
  have SH1 : Hid ((W.drewN nq).heap[w.heap.size]? = some (.cells #[.int .i64 4, .bool false, .bool marks, .func (.func 36) #[] #[], .func (.func 37) #[] #[]] 48 (0, 0))) := Lib.hid (blk_drewN SH0.out _)
  have BK1 : Hid ((W.drewN nq).heap[w.heap.size + 1]? = some (.cells #[.int .i64 0, .int .i64 0, .int .i64 0, .int .i32 0, .int .i32 0, .int .i64 0, .int .i64 0, .int .u32 0, .int .i32 0] 32 (0, 0))) := Lib.hid (blk_drewN BK0.out _)
  have HB1 : Hid (Below w.heap.size w (W.drewN nq)) := Lib.hid (pw_below_drewN HB0.out _)
  generalize W.drewN nq = W1 at *
  clear SH0 BK0 HB0
  have e0 := blk_cell SH1.out 0
  have e1 := blk_cell SH1.out 1
  have e2 := blk_cell SH1.out 2
  have e3 := blk_cell SH1.out 3
  have e4 := blk_cell SH1.out 4
  go_wp2_with fail
  refine (scalarC x _).mono ?_
  rintro e w2 ⟨rfl, ⟨m2, rfl⟩⟩
  rw [decide_eq_false HS.out]
  clear e0 e1 e2 e3 e4
  have SH2 : Hid ((W1.drewN m2).heap[w.heap.size]? = some (.cells #[.int .i64 4, .bool false, .bool marks, .func (.func 36) #[] #[], .func (.func 37) #[] #[]] 48 (0, 0))) := Lib.hid (blk_drewN SH1.out _)
  have BK2 : Hid ((W1.drewN m2).heap[w.heap.size + 1]? = some (.cells #[.int .i64 0, .int .i64 0, .int .i64 0, .int .i32 0, .int .i32 0, .int .i64 0, .int .i64 0, .int .u32 0, .int .i32 0] 32 (0, 0))) := Lib.hid (blk_drewN BK1.out _)
  have HB2 : Hid (Below w.heap.size w (W1.drewN m2)) := Lib.hid (pw_below_drewN HB1.out _)
  generalize W1.drewN m2 = W2 at *
  clear SH1 BK1 HB1
  have e0 := blk_cell SH2.out 0
  have e1 := blk_cell SH2.out 1
  have e2 := blk_cell SH2.out 2
  have e3 := blk_cell SH2.out 3
  have e4 := blk_cell SH2.out 4
  have r0 := blk_cell BK2.out 0
  have q0 := blk_frozen BK2.out 0
  have r1 := blk_cell BK2.out 1
  have q1 := blk_frozen BK2.out 1
  have r2 := blk_cell BK2.out 2
  have q2 := blk_frozen BK2.out 2
  have r3 := blk_cell BK2.out 3
  have q3 := blk_frozen BK2.out 3
  have r4 := blk_cell BK2.out 4
  have q4 := blk_frozen BK2.out 4
  have r5 := blk_cell BK2.out 5
  have q5 := blk_frozen BK2.out 5
  have r6 := blk_cell BK2.out 6
  have q6 := blk_frozen BK2.out 6
  have r7 := blk_cell BK2.out 7
  have q7 := blk_frozen BK2.out 7
  have r8 := blk_cell BK2.out 8
  have q8 := blk_frozen BK2.out 8
  go_wp2_with fail
  refine bodyPost_ret (results_cell_row rfl _ _ (w.heap.size + 1) 32 _ (0, 0) _ rfl (put9 BK2.out _ _ _ _ _ _ _ _ _) Try.underlying32 rfl (by kernel_rfl)) rfl ?_
  exact ⟨rfl, below9 HB2.out (Nat.le_succ _) _ _ _ _ _ _ _ _ _⟩
set_option maxHeartbeats 1000000 in
set_option maxRecDepth 100000 in
theorem sget_no_true2 (marks : Bool) (A : Option Addr) (c : Nat) (l : List Int) (w : World) (hC : Kd.C (Kd.int .u8) w A l.length l) (hc : l.length ≤ c) (hb : ∀ x ∈ l, Byte x) (hl : 2 ≤ l.length) (hs : ¬ Scal (num true (l.take 2))) (hx1 : num true (l.take 2) ≤ 1114111) : Calls Try.prog 29 #[shV 2 false marks true, .slice A l.length c] w fun e w' => e = .returned (gotV 10 2 0 0 0) ∧ Below w.heap.size w w' := by
  obtain ⟨hsl, hnum⟩ := numAt true A c 2 l w hC hc hb (by omega) (by omega)
  have hxb := num_len hb true 2 (by omega)
  have HS := Lib.hid hs
  clear hs
  have HNUM := Lib.hid hnum
  clear hC hc hb hnum
  change ∀ W : World, (Instr.slice 30 (.slice A l.length c) none (some (.int .i64 2)) none).run Try.prog W = .ok (.slice A 2 c) W at hsl
  generalize num true (l.take 2) = x at *
  change Hid (∀ W : World, Below w.heap.size w W → Calls Try.prog 36 #[.slice A 2 c] W fun e w' => e = .returned (.int .u32 x) ∧ w' = W) at HNUM
  have hx0 : 0 ≤ x := hxb.1
  unfold shV
  change Calls Try.prog 29 #[.agg #[.int .i64 2, .bool false, .bool marks, .func (.func 36) #[] #[], .func (.func 37) #[] #[]], .slice A l.length c] w _
  go_enter Try.func29, Try.ntmps29
  go_upto_region 3 with fail
  have SH0 : Hid (((w.alloc (.cells #[.int .i64 2, .bool false, .bool marks, .func (.func 36) #[] #[], .func (.func 37) #[] #[]] 48)).alloc (.cells #[.int .i64 0, .int .i64 0, .int .i64 0, .int .i32 0, .int .i32 0, .int .i64 0, .int .i64 0, .int .u32 0, .int .i32 0] 32)).heap[w.heap.size]? = some (.cells #[.int .i64 2, .bool false, .bool marks, .func (.func 36) #[] #[], .func (.func 37) #[] #[]] 48 (0, 0))) := Lib.hid (blk_alloc (heap_alloc_new _ _) _)
  have BK0 : Hid (((w.alloc (.cells #[.int .i64 2, .bool false, .bool marks, .func (.func 36) #[] #[], .func (.func 37) #[] #[]] 48)).alloc (.cells #[.int .i64 0, .int .i64 0, .int .i64 0, .int .i32 0, .int .i32 0, .int .i64 0, .int .i64 0, .int .u32 0, .int .i32 0] 32)).heap[w.heap.size + 1]? = some (.cells #[.int .i64 0, .int .i64 0, .int .i64 0, .int .i32 0, .int .i32 0, .int .i64 0, .int .i64 0, .int .u32 0, .int .i32 0] 32 (0, 0))) := Lib.hid (blk_second _ _ _)
  have HB0 : Hid (Below w.heap.size w ((w.alloc (.cells #[.int .i64 2, .bool false, .bool marks, .func (.func 36) #[] #[], .func (.func 37) #[] #[]] 48)).alloc (.cells #[.int .i64 0, .int .i64 0, .int .i64 0, .int .i32 0, .int .i32 0, .int .i64 0, .int .i64 0, .int .u32 0, .int .i32 0] 32))) := Lib.hid (below_alloc (below_alloc (Below.refl _ _) _) _)
  generalize ((w.alloc (.cells #[.int .i64 2, .bool false, .bool marks, .func (.func 36) #[] #[], .func (.func 37) #[] #[]] 48)).alloc (.cells #[.int .i64 0, .int .i64 0, .int .i64 0, .int .i32 0, .int .i32 0, .int .i64 0, .int .i64 0, .int .u32 0, .int .i32 0] 32)) = W at *
  have e0 := blk_cell SH0.out 0
  have e1 := blk_cell SH0.out 1
  have e2 := blk_cell SH0.out 2
  have e3 := blk_cell SH0.out 3
  have e4 := blk_cell SH0.out 4
  go_quiet ((go_at_call 36; exact Calls.quiet_of_same (HNUM.out _ (pw_below_drewN HB0.out _))))
  clear e0 e1 e2 e3 e4
  have SH1 : Hid ((W.drewN nq).heap[w.heap.size]? = some (.cells #[.int .i64 2, .bool false, .bool marks, .func (.func 36) #[] #[], .func (.func 37) #[] #[]] 48 (0, 0))) := Lib.hid (blk_drewN SH0.out _)
  have BK1 : Hid ((W.drewN nq).heap[w.heap.size + 1]? = some (.cells #[.int .i64 0, .int .i64 0, .int .i64 0, .int .i32 0, .int .i32 0, .int .i64 0, .int .i64 0, .int .u32 0, .int .i32 0] 32 (0, 0))) := Lib.hid (blk_drewN BK0.out _)
  have HB1 : Hid (Below w.heap.size w (W.drewN nq)) := Lib.hid (pw_below_drewN HB0.out _)
  generalize W.drewN nq = W1 at *
  clear SH0 BK0 HB0
  have e0 := blk_cell SH1.out 0
  have e1 := blk_cell SH1.out 1
  have e2 := blk_cell SH1.out 2
  have e3 := blk_cell SH1.out 3
  have e4 := blk_cell SH1.out 4
  go_wp2_with fail
  refine (scalarC x _).mono ?_
  rintro e w2 ⟨rfl, ⟨m2, rfl⟩⟩
  rw [decide_eq_false HS.out]
  clear e0 e1 e2 e3 e4
  have SH2 : Hid ((W1.drewN m2).heap[w.heap.size]? = some (.cells #[.int .i64 2, .bool false, .bool marks, .func (.func 36) #[] #[], .func (.func 37) #[] #[]] 48 (0, 0))) := Lib.hid (blk_drewN SH1.out _)
  have BK2 : Hid ((W1.drewN m2).heap[w.heap.size + 1]? = some (.cells #[.int .i64 0, .int .i64 0, .int .i64 0, .int .i32 0, .int .i32 0, .int .i64 0, .int .i64 0, .int .u32 0, .int .i32 0] 32 (0, 0))) := Lib.hid (blk_drewN BK1.out _)
  have HB2 : Hid (Below w.heap.size w (W1.drewN m2)) := Lib.hid (pw_below_drewN HB1.out _)
  generalize W1.drewN m2 = W2 at *
  clear SH1 BK1 HB1
  have e0 := blk_cell SH2.out 0
  have e1 := blk_cell SH2.out 1
  have e2 := blk_cell SH2.out 2
  have e3 := blk_cell SH2.out 3
  have e4 := blk_cell SH2.out 4
  have r0 := blk_cell BK2.out 0
  have q0 := blk_frozen BK2.out 0
  have r1 := blk_cell BK2.out 1
  have q1 := blk_frozen BK2.out 1
  have r2 := blk_cell BK2.out 2
  have q2 := blk_frozen BK2.out 2
  have r3 := blk_cell BK2.out 3
  have q3 := blk_frozen BK2.out 3
  have r4 := blk_cell BK2.out 4
  have q4 := blk_frozen BK2.out 4
  have r5 := blk_cell BK2.out 5
  have q5 := blk_frozen BK2.out 5
  have r6 := blk_cell BK2.out 6
  have q6 := blk_frozen BK2.out 6
  have r7 := blk_cell BK2.out 7
  have q7 := blk_frozen BK2.out 7
  have r8 := blk_cell BK2.out 8
  have q8 := blk_frozen BK2.out 8
  go_wp2_with fail
  refine bodyPost_ret (results_cell_row rfl _ _ (w.heap.size + 1) 32 _ (0, 0) _ rfl (put9 BK2.out _ _ _ _ _ _ _ _ _) Try.underlying32 rfl (by kernel_rfl)) rfl ?_
  exact ⟨rfl, below9 HB2.out (Nat.le_succ _) _ _ _ _ _ _ _ _ _⟩
set_option maxHeartbeats 1000000 in
set_option maxRecDepth 100000 in
theorem sget_lone_true2 (marks : Bool) (A : Option Addr) (c : Nat) (l : List Int) (w : World) (hC : Kd.C (Kd.int .u8) w A l.length l) (hc : l.length ≤ c) (hb : ∀ x ∈ l, Byte x) (hl : 2 ≤ l.length) (hs : ¬ Scal (num true (l.take 2))) (hh : ¬ Hi (num true (l.take 2))) : Calls Try.prog 29 #[shV 2 true marks true, .slice A l.length c] w fun e w' => e = .returned (gotV 10 2 0 0 0) ∧ Below w.heap.size w w' := by
  obtain ⟨hsl, hnum⟩ := numAt true A c 2 l w hC hc hb (by omega) (by omega)
  have hxb := num_len hb true 2 (by omega)
  have HS := Lib.hid hs
  have HH := Lib.hid hh
  clear hs hh
  have HNUM := Lib.hid hnum
  clear hC hc hb hnum
  change ∀ W : World, (Instr.slice 30 (.slice A l.length c) none (some (.int .i64 2)) none).run Try.prog W = .ok (.slice A 2 c) W at hsl
  generalize num true (l.take 2) = x at *
  change Hid (∀ W : World, Below w.heap.size w W → Calls Try.prog 36 #[.slice A 2 c] W fun e w' => e = .returned (.int .u32 x) ∧ w' = W) at HNUM
  have hx0 : 0 ≤ x := hxb.1
  have hx1 : x ≤ 1114111 := by omega
  unfold shV
  change Calls Try.prog 29 #[.agg #[.int .i64 2, .bool true, .bool marks, .func (.func 36) #[] #[], .func (.func 37) #[] #[]], .slice A l.length c] w _
  go_enter Try.func29, Try.ntmps29
  go_upto_region 3 with fail
  have SH0 : Hid (((w.alloc (.cells #[.int .i64 2, .bool true, .bool marks, .func (.func 36) #[] #[], .func (.func 37) #[] #[]] 48)).alloc (.cells #[.int .i64 0, .int .i64 0, .int .i64 0, .int .i32 0, .int .i32 0, .int .i64 0, .int .i64 0, .int .u32 0, .int .i32 0] 32)).heap[w.heap.size]? = some (.cells #[.int .i64 2, .bool true, .bool marks, .func (.func 36) #[] #[], .func (.func 37) #[] #[]] 48 (0, 0))) := Lib.hid (blk_alloc (heap_alloc_new _ _) _)
  have BK0 : Hid (((w.alloc (.cells #[.int .i64 2, .bool true, .bool marks, .func (.func 36) #[] #[], .func (.func 37) #[] #[]] 48)).alloc (.cells #[.int .i64 0, .int .i64 0, .int .i64 0, .int .i32 0, .int .i32 0, .int .i64 0, .int .i64 0, .int .u32 0, .int .i32 0] 32)).heap[w.heap.size + 1]? = some (.cells #[.int .i64 0, .int .i64 0, .int .i64 0, .int .i32 0, .int .i32 0, .int .i64 0, .int .i64 0, .int .u32 0, .int .i32 0] 32 (0, 0))) := Lib.hid (blk_second _ _ _)
  have HB0 : Hid (Below w.heap.size w ((w.alloc (.cells #[.int .i64 2, .bool true, .bool marks, .func (.func 36) #[] #[], .func (.func 37) #[] #[]] 48)).alloc (.cells #[.int .i64 0, .int .i64 0, .int .i64 0, .int .i32 0, .int .i32 0, .int .i64 0, .int .i64 0, .int .u32 0, .int .i32 0] 32))) := Lib.hid (below_alloc (below_alloc (Below.refl _ _) _) _)
  generalize ((w.alloc (.cells #[.int .i64 2, .bool true, .bool marks, .func (.func 36) #[] #[], .func (.func 37) #[] #[]] 48)).alloc (.cells #[.int .i64 0, .int .i64 0, .int .i64 0, .int .i32 0, .int .i32 0, .int .i64 0, .int .i64 0, .int .u32 0, .int .i32 0] 32)) = W at *
  have e0 := blk_cell SH0.out 0
  have e1 := blk_cell SH0.out 1
  have e2 := blk_cell SH0.out 2
  have e3 := blk_cell SH0.out 3
  have e4 := blk_cell SH0.out 4
  go_quiet ((go_at_call 36; exact Calls.quiet_of_same (HNUM.out _ (pw_below_drewN HB0.out _))))
  clear e0 e1 e2 e3 e4
  have SH1 : Hid ((W.drewN nq).heap[w.heap.size]? = some (.cells #[.int .i64 2, .bool true, .bool marks, .func (.func 36) #[] #[], .func (.func 37) #[] #[]] 48 (0, 0))) := Lib.hid (blk_drewN SH0.out _)
  have BK1 : Hid ((W.drewN nq).heap[w.heap.size + 1]? = some (.cells #[.int .i64 0, .int .i64 0, .int .i64 0, .int .i32 0, .int .i32 0, .int .i64 0, .int .i64 0, .int .u32 0, .int .i32 0] 32 (0, 0))) := Lib.hid (blk_drewN BK0.out _)
  have HB1 : Hid (Below w.heap.size w (W.drewN nq)) := Lib.hid (pw_below_drewN HB0.out _)
  generalize W.drewN nq = W1 at *
  clear SH0 BK0 HB0
  have e0 := blk_cell SH1.out 0
  have e1 := blk_cell SH1.out 1
  have e2 := blk_cell SH1.out 2
  have e3 := blk_cell SH1.out 3
  have e4 := blk_cell SH1.out 4
  go_wp2_with fail
  refine (scalarC x _).mono ?_
  rintro e w2 ⟨rfl, ⟨m2, rfl⟩⟩
  rw [decide_eq_false HS.out]
  clear e0 e1 e2 e3 e4
  have SH2 : Hid ((W1.drewN m2).heap[w.heap.size]? = some (.cells #[.int .i64 2, .bool true, .bool marks, .func (.func 36) #[] #[], .func (.func 37) #[] #[]] 48 (0, 0))) := Lib.hid (blk_drewN SH1.out _)
  have BK2 : Hid ((W1.drewN m2).heap[w.heap.size + 1]? = some (.cells #[.int .i64 0, .int .i64 0, .int .i64 0, .int .i32 0, .int .i32 0, .int .i64 0, .int .i64 0, .int .u32 0, .int .i32 0] 32 (0, 0))) := Lib.hid (blk_drewN BK1.out _)
  have HB2 : Hid (Below w.heap.size w (W1.drewN m2)) := Lib.hid (pw_below_drewN HB1.out _)
  generalize W1.drewN m2 = W2 at *
  clear SH1 BK1 HB1
  have e0 := blk_cell SH2.out 0
  have e1 := blk_cell SH2.out 1
  have e2 := blk_cell SH2.out 2
  have e3 := blk_cell SH2.out 3
  have e4 := blk_cell SH2.out 4
  go_wp2_with fail
  refine (highC x _).mono ?_
  rintro e w2 ⟨rfl, ⟨m3, rfl⟩⟩
  rw [decide_eq_false HH.out]
  clear e0 e1 e2 e3 e4
  have SH3 : Hid ((W2.drewN m3).heap[w.heap.size]? = some (.cells #[.int .i64 2, .bool true, .bool marks, .func (.func 36) #[] #[], .func (.func 37) #[] #[]] 48 (0, 0))) := Lib.hid (blk_drewN SH2.out _)
  have BK3 : Hid ((W2.drewN m3).heap[w.heap.size + 1]? = some (.cells #[.int .i64 0, .int .i64 0, .int .i64 0, .int .i32 0, .int .i32 0, .int .i64 0, .int .i64 0, .int .u32 0, .int .i32 0] 32 (0, 0))) := Lib.hid (blk_drewN BK2.out _)
  have HB3 : Hid (Below w.heap.size w (W2.drewN m3)) := Lib.hid (pw_below_drewN HB2.out _)
  generalize W2.drewN m3 = W3 at *
  clear SH2 BK2 HB2
  have e0 := blk_cell SH3.out 0
  have e1 := blk_cell SH3.out 1
  have e2 := blk_cell SH3.out 2
  have e3 := blk_cell SH3.out 3
  have e4 := blk_cell SH3.out 4
  have r0 := blk_cell BK3.out 0
  have q0 := blk_frozen BK3.out 0
  have r1 := blk_cell BK3.out 1
  have q1 := blk_frozen BK3.out 1
  have r2 := blk_cell BK3.out 2
  have q2 := blk_frozen BK3.out 2
  have r3 := blk_cell BK3.out 3
  have q3 := blk_frozen BK3.out 3
  have r4 := blk_cell BK3.out 4
  have q4 := blk_frozen BK3.out 4
  have r5 := blk_cell BK3.out 5
  have q5 := blk_frozen BK3.out 5
  have r6 := blk_cell BK3.out 6
  have q6 := blk_frozen BK3.out 6
  have r7 := blk_cell BK3.out 7
  have q7 := blk_frozen BK3.out 7
  have r8 := blk_cell BK3.out 8
  have q8 := blk_frozen BK3.out 8
  go_wp2_with fail
  refine bodyPost_ret (results_cell_row rfl _ _ (w.heap.size + 1) 32 _ (0, 0) _ rfl (put9 BK3.out _ _ _ _ _ _ _ _ _) Try.underlying32 rfl (by kernel_rfl)) rfl ?_
  exact ⟨rfl, below9 HB3.out (Nat.le_succ _) _ _ _ _ _ _ _ _ _⟩
set_option maxHeartbeats 1000000 in
set_option maxRecDepth 100000 in
theorem sget_few_true2 (marks : Bool) (A : Option Addr) (c : Nat) (l : List Int) (w : World) (hC : Kd.C (Kd.int .u8) w A l.length l) (hc : l.length ≤ c) (hb : ∀ x ∈ l, Byte x) (hl : 2 ≤ l.length) (hl4 : l.length < 4) (hh : Hi (num true (l.take 2))) : Calls Try.prog 29 #[shV 2 true marks true, .slice A l.length c] w fun e w' => e = .returned (gotV 1 0 0 0 0) ∧ Below w.heap.size w w' := by
  obtain ⟨hsl, hnum⟩ := numAt true A c 2 l w hC hc hb (by omega) (by omega)
  have hxb := num_len hb true 2 (by omega)
  have HS := Lib.hid (hi_not hh)
  have HH := Lib.hid hh
  clear hh
  have HNUM := Lib.hid hnum
  clear hC hc hb hnum
  change ∀ W : World, (Instr.slice 30 (.slice A l.length c) none (some (.int .i64 2)) none).run Try.prog W = .ok (.slice A 2 c) W at hsl
  generalize num true (l.take 2) = x at *
  change Hid (∀ W : World, Below w.heap.size w W → Calls Try.prog 36 #[.slice A 2 c] W fun e w' => e = .returned (.int .u32 x) ∧ w' = W) at HNUM
  have hx0 : 0 ≤ x := hxb.1
  have hx1 : x ≤ 1114111 := by omega
  unfold shV
  change Calls Try.prog 29 #[.agg #[.int .i64 2, .bool true, .bool marks, .func (.func 36) #[] #[], .func (.func 37) #[] #[]], .slice A l.length c] w _
  go_enter Try.func29, Try.ntmps29
  go_upto_region 3 with fail
  have SH0 : Hid (((w.alloc (.cells #[.int .i64 2, .bool true, .bool marks, .func (.func 36) #[] #[], .func (.func 37) #[] #[]] 48)).alloc (.cells #[.int .i64 0, .int .i64 0, .int .i64 0, .int .i32 0, .int .i32 0, .int .i64 0, .int .i64 0, .int .u32 0, .int .i32 0] 32)).heap[w.heap.size]? = some (.cells #[.int .i64 2, .bool true, .bool marks, .func (.func 36) #[] #[], .func (.func 37) #[] #[]] 48 (0, 0))) := Lib.hid (blk_alloc (heap_alloc_new _ _) _)
  have BK0 : Hid (((w.alloc (.cells #[.int .i64 2, .bool true, .bool marks, .func (.func 36) #[] #[], .func (.func 37) #[] #[]] 48)).alloc (.cells #[.int .i64 0, .int .i64 0, .int .i64 0, .int .i32 0, .int .i32 0, .int .i64 0, .int .i64 0, .int .u32 0, .int .i32 0] 32)).heap[w.heap.size + 1]? = some (.cells #[.int .i64 0, .int .i64 0, .int .i64 0, .int .i32 0, .int .i32 0, .int .i64 0, .int .i64 0, .int .u32 0, .int .i32 0] 32 (0, 0))) := Lib.hid (blk_second _ _ _)
  have HB0 : Hid (Below w.heap.size w ((w.alloc (.cells #[.int .i64 2, .bool true, .bool marks, .func (.func 36) #[] #[], .func (.func 37) #[] #[]] 48)).alloc (.cells #[.int .i64 0, .int .i64 0, .int .i64 0, .int .i32 0, .int .i32 0, .int .i64 0, .int .i64 0, .int .u32 0, .int .i32 0] 32))) := Lib.hid (below_alloc (below_alloc (Below.refl _ _) _) _)
  generalize ((w.alloc (.cells #[.int .i64 2, .bool true, .bool marks, .func (.func 36) #[] #[], .func (.func 37) #[] #[]] 48)).alloc (.cells #[.int .i64 0, .int .i64 0, .int .i64 0, .int .i32 0, .int .i32 0, .int .i64 0, .int .i64 0, .int .u32 0, .int .i32 0] 32)) = W at *
  have e0 := blk_cell SH0.out 0
  have e1 := blk_cell SH0.out 1
  have e2 := blk_cell SH0.out 2
  have e3 := blk_cell SH0.out 3
  have e4 := blk_cell SH0.out 4
  go_quiet ((go_at_call 36; exact Calls.quiet_of_same (HNUM.out _ (pw_below_drewN HB0.out _))))
  clear e0 e1 e2 e3 e4
  have SH1 : Hid ((W.drewN nq).heap[w.heap.size]? = some (.cells #[.int .i64 2, .bool true, .bool marks, .func (.func 36) #[] #[], .func (.func 37) #[] #[]] 48 (0, 0))) := Lib.hid (blk_drewN SH0.out _)
  have BK1 : Hid ((W.drewN nq).heap[w.heap.size + 1]? = some (.cells #[.int .i64 0, .int .i64 0, .int .i64 0, .int .i32 0, .int .i32 0, .int .i64 0, .int .i64 0, .int .u32 0, .int .i32 0] 32 (0, 0))) := Lib.hid (blk_drewN BK0.out _)
  have HB1 : Hid (Below w.heap.size w (W.drewN nq)) := Lib.hid (pw_below_drewN HB0.out _)
  generalize W.drewN nq = W1 at *
  clear SH0 BK0 HB0
  have e0 := blk_cell SH1.out 0
  have e1 := blk_cell SH1.out 1
  have e2 := blk_cell SH1.out 2
  have e3 := blk_cell SH1.out 3
  have e4 := blk_cell SH1.out 4
  go_wp2_with fail
  refine (scalarC x _).mono ?_
  rintro e w2 ⟨rfl, ⟨m2, rfl⟩⟩
  rw [decide_eq_false HS.out]
  clear e0 e1 e2 e3 e4
  have SH2 : Hid ((W1.drewN m2).heap[w.heap.size]? = some (.cells #[.int .i64 2, .bool true, .bool marks, .func (.func 36) #[] #[], .func (.func 37) #[] #[]] 48 (0, 0))) := Lib.hid (blk_drewN SH1.out _)
  have BK2 : Hid ((W1.drewN m2).heap[w.heap.size + 1]? = some (.cells #[.int .i64 0, .int .i64 0, .int .i64 0, .int .i32 0, .int .i32 0, .int .i64 0, .int .i64 0, .int .u32 0, .int .i32 0] 32 (0, 0))) := Lib.hid (blk_drewN BK1.out _)
  have HB2 : Hid (Below w.heap.size w (W1.drewN m2)) := Lib.hid (pw_below_drewN HB1.out _)
  generalize W1.drewN m2 = W2 at *
  clear SH1 BK1 HB1
  have e0 := blk_cell SH2.out 0
  have e1 := blk_cell SH2.out 1
  have e2 := blk_cell SH2.out 2
  have e3 := blk_cell SH2.out 3
  have e4 := blk_cell SH2.out 4
  go_wp2_with fail
  refine (highC x _).mono ?_
  rintro e w2 ⟨rfl, ⟨m3, rfl⟩⟩
  rw [decide_eq_true HH.out]
  clear e0 e1 e2 e3 e4
  have SH3 : Hid ((W2.drewN m3).heap[w.heap.size]? = some (.cells #[.int .i64 2, .bool true, .bool marks, .func (.func 36) #[] #[], .func (.func 37) #[] #[]] 48 (0, 0))) := Lib.hid (blk_drewN SH2.out _)
  have BK3 : Hid ((W2.drewN m3).heap[w.heap.size + 1]? = some (.cells #[.int .i64 0, .int .i64 0, .int .i64 0, .int .i32 0, .int .i32 0, .int .i64 0, .int .i64 0, .int .u32 0, .int .i32 0] 32 (0, 0))) := Lib.hid (blk_drewN BK2.out _)
  have HB3 : Hid (Below w.heap.size w (W2.drewN m3)) := Lib.hid (pw_below_drewN HB2.out _)
  generalize W2.drewN m3 = W3 at *
  clear SH2 BK2 HB2
  have e0 := blk_cell SH3.out 0
  have e1 := blk_cell SH3.out 1
  have e2 := blk_cell SH3.out 2
  have e3 := blk_cell SH3.out 3
  have e4 := blk_cell SH3.out 4
  have r0 := blk_cell BK3.out 0
  have q0 := blk_frozen BK3.out 0
  have r1 := blk_cell BK3.out 1
  have q1 := blk_frozen BK3.out 1
  have r2 := blk_cell BK3.out 2
  have q2 := blk_frozen BK3.out 2
  have r3 := blk_cell BK3.out 3
  have q3 := blk_frozen BK3.out 3
  have r4 := blk_cell BK3.out 4
  have q4 := blk_frozen BK3.out 4
  have r5 := blk_cell BK3.out 5
  have q5 := blk_frozen BK3.out 5
  have r6 := blk_cell BK3.out 6
  have q6 := blk_frozen BK3.out 6
  have r7 := blk_cell BK3.out 7
  have q7 := blk_frozen BK3.out 7
  have r8 := blk_cell BK3.out 8
  have q8 := blk_frozen BK3.out 8
  go_wp2_with fail
  refine bodyPost_ret (results_cell_row rfl _ _ (w.heap.size + 1) 32 _ (0, 0) _ rfl (put9 BK3.out _ _ _ _ _ _ _ _ _) Try.underlying32 rfl (by kernel_rfl)) rfl ?_
  exact ⟨rfl, below9 HB3.out (Nat.le_succ _) _ _ _ _ _ _ _ _ _⟩
end Go.Proofs.Ytflmpdfcbdfabaa.Wd
