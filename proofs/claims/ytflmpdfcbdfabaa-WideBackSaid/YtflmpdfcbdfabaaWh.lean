/- What a shape gets of a pair of surrogates, walked; and of any bytes. -/
import Derived.Test.YtflmpdfcbdfabaaWg
namespace Go.Proofs.Ytflmpdfcbdfabaa.Wd
open Go.RowKit Go.Proofs.YtflmpdfcbdfabaaW.PrintWords Go.Proofs.YtflmpdfcbdfabaaW.PrintLast Go.Proofs.YtflmpdfcbdfabaaW.PrintMore
open Go.Proofs.Ytflmpdfcbdfabaa.PWideGets
def jn (x y : Int) : Int := 65536 + (x - 55296) * 1024 + (y - 56320)
theorem wraps_i32' (n : Int) (h0 : 0 ≤ n) (h1 : n < 2 ^ 31) : IntKind.i32.wrap n = n := by rw [IntKind.wrap_i32]; omega
theorem ucs_low (u : Int) : ucs_Low.f u = some (decide (Lo u)) := by
  unfold ucs_Low.f Lo
  by_cases h2 : u ≥ 56320 <;> simp [h2] <;> omega
theorem join_is {x y : Int} (hx : Hi x) : ucs_Join.f x y = some (if Lo y then (jn x y, true) else (0, false)) := by
  unfold ucs_Join.f
  rw [ucs_high, ucs_low]
  simp only [Option.bind_some, hx, decide_true, if_true]
  by_cases hy : Lo y
  · simp only [hy, decide_true, if_true]
    have h1 := hx
    have h2 := hy
    unfold Hi at h1
    unfold Lo at h2
    have e1 : wrap32 ((wrap32 (x - 55296)) * 1024) = (x - 55296) * 1024 := by unfold wrap32; omega
    have e2 : wrap32 (y - 56320) = y - 56320 := by unfold wrap32; omega
    rw [e1, e2, bits_join .i32 31 (by decide) wraps_i32' 10 ((x - 55296) * 1024) (y - 56320) (by omega) (by omega) (by omega) (by omega) (by omega) (by omega)]
    have e3 : wrap32 ((x - 55296) * 1024 + (y - 56320) + 65536) = jn x y := by unfold wrap32 jn; omega
    rw [e3]
  · simp only [hy, decide_false]
    rfl
theorem joinC {x y : Int} (w : World) (hx : Hi x) (hy : Lo y) : Calls Try.prog 38 #[.int .i32 x, .int .i32 y] w fun e w' => e = .returned (.tuple #[.int .i32 (jn x y), .bool true]) ∧ Drawn0 w w' :=
  ucs_Join.calls x y _ _ w (by rw [join_is hx, if_pos hy])
theorem joinC_not {x y : Int} (w : World) (hx : Hi x) (hy : ¬ Lo y) : Calls Try.prog 38 #[.int .i32 x, .int .i32 y] w fun e w' => e = .returned (.tuple #[.int .i32 0, .bool false]) ∧ Drawn0 w w' :=
  ucs_Join.calls x y _ _ w (by rw [join_is hx, if_neg hy])
theorem quietly {f : Nat} {args : Array Value} {W : World} {v : Value} (h : Calls Try.prog f args W fun e w' => e = .returned v ∧ Drawn0 W w') : Calls Try.prog f args W fun e w' => e = .returned v ∧ ∃ m, w' = W.drewN m :=
  h.mono fun _ _ ⟨he, hd⟩ => ⟨he, hd.out⟩
/-- The number of the next two bytes, as the region calls for it. -/
theorem numMid (low : Bool) (A : Option Addr) (c : Nat) (l : List Int) (w : World) (hC : Kd.C (Kd.int .u8) w A l.length l) (hc : l.length ≤ c) (hb : ∀ x ∈ l, Byte x) (hl : 4 ≤ l.length) :
    ∃ A', (∀ W : World, (Instr.slice 30 (.slice A l.length c) (some (.int .i64 2)) (some (.int .i64 4)) none).run Try.prog W = .ok (.slice A' 2 (c - 2)) W) ∧
    ∀ W : World, Below w.heap.size w W → Calls Try.prog (if low then 36 else 34) #[.slice A' 2 (c - 2)] W fun e w' => e = .returned (.int .u32 (num low ((l.drop 2).take 2))) ∧ w' = W := by
  obtain ⟨i5, hi5, hz5⟩ := Option.map_eq_some_iff.1 info5
  simp only [Prod.mk.injEq] at hz5
  obtain ⟨A', h1, h2, h3⟩ := print_mid_int (P := Try.prog) (k := .u8) 30 5 Try.underlying30 hi5 hz5.2.1 A c l 2 4 (by omega) (by omega) (by omega) hc
  have e : (l.take (4 : Int).toNat).drop (2 : Int).toNat = (l.drop 2).take 2 := by
    show (l.take 4).drop 2 = _
    rw [List.drop_take]
  have hlen : ((l.drop 2).take 2).length = 2 := by rw [List.length_take, List.length_drop]; omega
  rw [e, hlen] at h1 h2 h3
  refine ⟨A', fun W => h1 W, fun W hW => ?_⟩
  have hr := h2 W (Kd.reads_of_C (enc := Value.int .u8) (d := (0 : Int)) (h1 := fun _ => rfl) (Kd.C_below hC hW))
  have := numC low A' (c - 2) ((l.drop 2).take 2) W (by rw [hlen]; exact Kd.C_of_reads (d := (0 : Int)) hr) (fun x hx => hb x (List.mem_of_mem_drop (List.mem_of_mem_take hx))) (by omega)
  rw [hlen] at this
  exact this
theorem num_mid {l : List Int} (hb : ∀ x ∈ l, Byte x) (low : Bool) (hl : 4 ≤ l.length) : 0 ≤ num low ((l.drop 2).take 2) ∧ num low ((l.drop 2).take 2) < 256 ^ 2 :=
  num_len (fun x hx => hb x (List.mem_of_mem_drop hx)) low 2 (by rw [List.length_drop]; omega)
set_option maxHeartbeats 1000000 in
set_option maxRecDepth 100000 in
theorem sget_pair_false2 (marks : Bool) (A : Option Addr) (c : Nat) (l : List Int) (w : World) (hC : Kd.C (Kd.int .u8) w A l.length l) (hc : l.length ≤ c) (hb : ∀ x ∈ l, Byte x) (hl : 4 ≤ l.length) (hy : Lo (num false ((l.drop 2).take 2))) (hh : Hi (num false (l.take 2))) : Calls Try.prog 29 #[shV 2 true marks false, .slice A l.length c] w fun e w' => e = .returned (gotV 0 4 1 (jn (num false (l.take 2)) (num false ((l.drop 2).take 2))) 0) ∧ Below w.heap.size w w' := by
  obtain ⟨hsl, hnum⟩ := numAt false A c 2 l w hC hc hb (by omega) (by omega)
  have hxb := num_len hb false 2 (by omega)
  have HS := Lib.hid (hi_not hh)
  have HH := Lib.hid hh
  have HY := Lib.hid hy
  have hyb := num_mid hb false (by omega)
  obtain ⟨A', hsl2, hnum2⟩ := numMid false A c l w hC hc hb (by omega)
  have HNUM2 := Lib.hid hnum2
  clear hh hy hnum2
  change Hid (∀ W : World, Below w.heap.size w W → Calls Try.prog 34 #[.slice A' 2 (c - 2)] W fun e w' => e = .returned (.int .u32 (num false ((l.drop 2).take 2))) ∧ w' = W) at HNUM2
  generalize num false ((l.drop 2).take 2) = y at *
  have HNUM := Lib.hid hnum
  clear hC hc hb hnum
  change ∀ W : World, (Instr.slice 30 (.slice A l.length c) none (some (.int .i64 2)) none).run Try.prog W = .ok (.slice A 2 c) W at hsl
  generalize num false (l.take 2) = x at *
  change Hid (∀ W : World, Below w.heap.size w W → Calls Try.prog 34 #[.slice A 2 c] W fun e w' => e = .returned (.int .u32 x) ∧ w' = W) at HNUM
  have hx0 : 0 ≤ x := hxb.1
  have hx1 : x ≤ 1114111 := by omega
  have hy0 : 0 ≤ y := hyb.1
  have hy1 : y ≤ 1114111 := by omega
  unfold shV
  change Calls Try.prog 29 #[.agg #[.int .i64 2, .bool true, .bool marks, .func (.func 34) #[] #[], .func (.func 35) #[] #[]], .slice A l.length c] w _
  go_enter Try.func29, Try.ntmps29
  go_upto_region 3 with fail
  have SH0 : Hid (((w.alloc (.cells #[.int .i64 2, .bool true, .bool marks, .func (.func 34) #[] #[], .func (.func 35) #[] #[]] 48)).alloc (.cells #[.int .i64 0, .int .i64 0, .int .i64 0, .int .i32 0, .int .i32 0, .int .i64 0, .int .i64 0, .int .u32 0, .int .i32 0] 32)).heap[w.heap.size]? = some (.cells #[.int .i64 2, .bool true, .bool marks, .func (.func 34) #[] #[], .func (.func 35) #[] #[]] 48 (0, 0))) := Lib.hid (blk_alloc (heap_alloc_new _ _) _)
  have BK0 : Hid (((w.alloc (.cells #[.int .i64 2, .bool true, .bool marks, .func (.func 34) #[] #[], .func (.func 35) #[] #[]] 48)).alloc (.cells #[.int .i64 0, .int .i64 0, .int .i64 0, .int .i32 0, .int .i32 0, .int .i64 0, .int .i64 0, .int .u32 0, .int .i32 0] 32)).heap[w.heap.size + 1]? = some (.cells #[.int .i64 0, .int .i64 0, .int .i64 0, .int .i32 0, .int .i32 0, .int .i64 0, .int .i64 0, .int .u32 0, .int .i32 0] 32 (0, 0))) := Lib.hid (blk_second _ _ _)
  have HB0 : Hid (Below w.heap.size w ((w.alloc (.cells #[.int .i64 2, .bool true, .bool marks, .func (.func 34) #[] #[], .func (.func 35) #[] #[]] 48)).alloc (.cells #[.int .i64 0, .int .i64 0, .int .i64 0, .int .i32 0, .int .i32 0, .int .i64 0, .int .i64 0, .int .u32 0, .int .i32 0] 32))) := Lib.hid (below_alloc (below_alloc (Below.refl _ _) _) _)
  generalize ((w.alloc (.cells #[.int .i64 2, .bool true, .bool marks, .func (.func 34) #[] #[], .func (.func 35) #[] #[]] 48)).alloc (.cells #[.int .i64 0, .int .i64 0, .int .i64 0, .int .i32 0, .int .i32 0, .int .i64 0, .int .i64 0, .int .u32 0, .int .i32 0] 32)) = W at *
  have e0 := blk_cell SH0.out 0
  have e1 := blk_cell SH0.out 1
  have e2 := blk_cell SH0.out 2
  have e3 := blk_cell SH0.out 3
  have e4 := blk_cell SH0.out 4
  go_quiet ((go_at_call 34; exact Calls.quiet_of_same (HNUM.out _ (pw_below_drewN HB0.out _))))
  clear e0 e1 e2 e3 e4
  have SH1 : Hid ((W.drewN nq).heap[w.heap.size]? = some (.cells #[.int .i64 2, .bool true, .bool marks, .func (.func 34) #[] #[], .func (.func 35) #[] #[]] 48 (0, 0))) := Lib.hid (blk_drewN SH0.out _)
  have BK1 : Hid ((W.drewN nq).heap[w.heap.size + 1]? = some (.cells #[.int .i64 0, .int .i64 0, .int .i64 0, .int .i32 0, .int .i32 0, .int .i64 0, .int .i64 0, .int .u32 0, .int .i32 0] 32 (0, 0))) := Lib.hid (blk_drewN BK0.out _)
  have HB1 : Hid (Below w.heap.size w (W.drewN nq)) := Lib.hid (pw_below_drewN HB0.out _)
  generalize W.drewN nq = W1 at *
  clear SH0 BK0 HB0
  have e0 := blk_cell SH1.out 0
  have e1 := blk_cell SH1.out 1
  have e2 := blk_cell SH1.out 2
  have e3 := blk_cell SH1.out 3
  have e4 := blk_cell SH1.out 4
  go_wp2_with fail
  refine (scalarC x _).mono ?_
  rintro e w2 ⟨rfl, ⟨m2, rfl⟩⟩
  rw [decide_eq_false HS.out]
  clear e0 e1 e2 e3 e4
  have SH2 : Hid ((W1.drewN m2).heap[w.heap.size]? = some (.cells #[.int .i64 2, .bool true, .bool marks, .func (.func 34) #[] #[], .func (.func 35) #[] #[]] 48 (0, 0))) := Lib.hid (blk_drewN SH1.out _)
  have BK2 : Hid ((W1.drewN m2).heap[w.heap.size + 1]? = some (.cells #[.int .i64 0, .int .i64 0, .int .i64 0, .int .i32 0, .int .i32 0, .int .i64 0, .int .i64 0, .int .u32 0, .int .i32 0] 32 (0, 0))) := Lib.hid (blk_drewN BK1.out _)
  have HB2 : Hid (Below w.heap.size w (W1.drewN m2)) := Lib.hid (pw_below_drewN HB1.out _)
  generalize W1.drewN m2 = W2 at *
  clear SH1 BK1 HB1
  have e0 := blk_cell SH2.out 0
  have e1 := blk_cell SH2.out 1
  have e2 := blk_cell SH2.out 2
  have e3 := blk_cell SH2.out 3
  have e4 := blk_cell SH2.out 4
  go_wp2_with fail
  refine (highC x _).mono ?_
  rintro e w2 ⟨rfl, ⟨m3, rfl⟩⟩
  rw [decide_eq_true HH.out]
  clear e0 e1 e2 e3 e4
  have SH3 : Hid ((W2.drewN m3).heap[w.heap.size]? = some (.cells #[.int .i64 2, .bool true, .bool marks, .func (.func 34) #[] #[], .func (.func 35) #[] #[]] 48 (0, 0))) := Lib.hid (blk_drewN SH2.out _)
  have BK3 : Hid ((W2.drewN m3).heap[w.heap.size + 1]? = some (.cells #[.int .i64 0, .int .i64 0, .int .i64 0, .int .i32 0, .int .i32 0, .int .i64 0, .int .i64 0, .int .u32 0, .int .i32 0] 32 (0, 0))) := Lib.hid (blk_drewN BK2.out _)
  have HB3 : Hid (Below w.heap.size w (W2.drewN m3)) := Lib.hid (pw_below_drewN HB2.out _)
  generalize W2.drewN m3 = W3 at *
  clear SH2 BK2 HB2
  have e0 := blk_cell SH3.out 0
  have e1 := blk_cell SH3.out 1
  have e2 := blk_cell SH3.out 2
  have e3 := blk_cell SH3.out 3
  have e4 := blk_cell SH3.out 4
  go_wp2_with fail
  have y1 : IntKind.i32.wrap x = x := by rw [IntKind.wrap_i32]; omega
  have y2 : IntKind.i32.wrap y = y := by rw [IntKind.wrap_i32]; omega
  go_quiet (first | (go_at_call 34; exact Calls.quiet_of_same (HNUM2.out _ (pw_below_drewN HB3.out _))) | (go_at_call 38; exact Calls.quiet_of (quietly (joinC _ HH.out HY.out))))
  clear y1 y2
  clear e0 e1 e2 e3 e4
  have SH4 : Hid ((W3.drewN nq).heap[w.heap.size]? = some (.cells #[.int .i64 2, .bool true, .bool marks, .func (.func 34) #[] #[], .func (.func 35) #[] #[]] 48 (0, 0))) := Lib.hid (blk_drewN SH3.out _)
  have BK4 : Hid ((W3.drewN nq).heap[w.heap.size + 1]? = some (.cells #[.int .i64 0, .int .i64 0, .int .i64 0, .int .i32 0, .int .i32 0, .int .i64 0, .int .i64 0, .int .u32 0, .int .i32 0] 32 (0, 0))) := Lib.hid (blk_drewN BK3.out _)
  have HB4 : Hid (Below w.heap.size w (W3.drewN nq)) := Lib.hid (pw_below_drewN HB3.out _)
  generalize W3.drewN nq = W4 at *
  clear SH3 BK3 HB3
  have e0 := blk_cell SH4.out 0
  have e1 := blk_cell SH4.out 1
  have e2 := blk_cell SH4.out 2
  have e3 := blk_cell SH4.out 3
  have e4 := blk_cell SH4.out 4
  have r0 := blk_cell BK4.out 0
  have q0 := blk_frozen BK4.out 0
  have r1 := blk_cell BK4.out 1
  have q1 := blk_frozen BK4.out 1
  have r2 := blk_cell BK4.out 2
  have q2 := blk_frozen BK4.out 2
  have r3 := blk_cell BK4.out 3
  have q3 := blk_frozen BK4.out 3
  have r4 := blk_cell BK4.out 4
  have q4 := blk_frozen BK4.out 4
  have r5 := blk_cell BK4.out 5
  have q5 := blk_frozen BK4.out 5
  have r6 := blk_cell BK4.out 6
  have q6 := blk_frozen BK4.out 6
  have r7 := blk_cell BK4.out 7
  have q7 := blk_frozen BK4.out 7
  have r8 := blk_cell BK4.out 8
  have q8 := blk_frozen BK4.out 8
  go_wp2_with fail
  refine bodyPost_ret (results_cell_row rfl _ _ (w.heap.size + 1) 32 _ (0, 0) _ rfl (put9 BK4.out _ _ _ _ _ _ _ _ _) Try.underlying32 rfl (by kernel_rfl)) rfl ?_
  exact ⟨rfl, below9 HB4.out (Nat.le_succ _) _ _ _ _ _ _ _ _ _⟩
set_option maxHeartbeats 1000000 in
set_option maxRecDepth 100000 in
theorem sget_torn_false2 (marks : Bool) (A : Option Addr) (c : Nat) (l : List Int) (w : World) (hC : Kd.C (Kd.int .u8) w A l.length l) (hc : l.length ≤ c) (hb : ∀ x ∈ l, Byte x) (hl : 4 ≤ l.length) (hy : ¬ Lo (num false ((l.drop 2).take 2))) (hh : Hi (num false (l.take 2))) : Calls Try.prog 29 #[shV 2 true marks false, .slice A l.length c] w fun e w' => e = .returned (gotV 10 2 0 0 0) ∧ Below w.heap.size w w' := by
  obtain ⟨hsl, hnum⟩ := numAt false A c 2 l w hC hc hb (by omega) (by omega)
  have hxb := num_len hb false 2 (by omega)
  have HS := Lib.hid (hi_not hh)
  have HH := Lib.hid hh
  have HY := Lib.hid hy
  have hyb := num_mid hb false (by omega)
  obtain ⟨A', hsl2, hnum2⟩ := numMid false A c l w hC hc hb (by omega)
  have HNUM2 := Lib.hid hnum2
  clear hh hy hnum2
  change Hid (∀ W : World, Below w.heap.size w W → Calls Try.prog 34 #[.slice A' 2 (c - 2)] W fun e w' => e = .returned (.int .u32 (num false ((l.drop 2).take 2))) ∧ w' = W) at HNUM2
  generalize num false ((l.drop 2).take 2) = y at *
  have HNUM := Lib.hid hnum
  clear hC hc hb hnum
  change ∀ W : World, (Instr.slice 30 (.slice A l.length c) none (some (.int .i64 2)) none).run Try.prog W = .ok (.slice A 2 c) W at hsl
  generalize num false (l.take 2) = x at *
  change Hid (∀ W : World, Below w.heap.size w W → Calls Try.prog 34 #[.slice A 2 c] W fun e w' => e = .returned (.int .u32 x) ∧ w' = W) at HNUM
  have hx0 : 0 ≤ x := hxb.1
  have hx1 : x ≤ 1114111 := by omega
  have hy0 : 0 ≤ y := hyb.1
  have hy1 : y ≤ 1114111 := by omega
  unfold shV
  change Calls Try.prog 29 #[.agg #[.int .i64 2, .bool true, .bool marks, .func (.func 34) #[] #[], .func (.func 35) #[] #[]], .slice A l.length c] w _
  go_enter Try.func29, Try.ntmps29
  go_upto_region 3 with fail
  have SH0 : Hid (((w.alloc (.cells #[.int .i64 2, .bool true, .bool marks, .func (.func 34) #[] #[], .func (.func 35) #[] #[]] 48)).alloc (.cells #[.int .i64 0, .int .i64 0, .int .i64 0, .int .i32 0, .int .i32 0, .int .i64 0, .int .i64 0, .int .u32 0, .int .i32 0] 32)).heap[w.heap.size]? = some (.cells #[.int .i64 2, .bool true, .bool marks, .func (.func 34) #[] #[], .func (.func 35) #[] #[]] 48 (0, 0))) := Lib.hid (blk_alloc (heap_alloc_new _ _) _)
  have BK0 : Hid (((w.alloc (.cells #[.int .i64 2, .bool true, .bool marks, .func (.func 34) #[] #[], .func (.func 35) #[] #[]] 48)).alloc (.cells #[.int .i64 0, .int .i64 0, .int .i64 0, .int .i32 0, .int .i32 0, .int .i64 0, .int .i64 0, .int .u32 0, .int .i32 0] 32)).heap[w.heap.size + 1]? = some (.cells #[.int .i64 0, .int .i64 0, .int .i64 0, .int .i32 0, .int .i32 0, .int .i64 0, .int .i64 0, .int .u32 0, .int .i32 0] 32 (0, 0))) := Lib.hid (blk_second _ _ _)
  have HB0 : Hid (Below w.heap.size w ((w.alloc (.cells #[.int .i64 2, .bool true, .bool marks, .func (.func 34) #[] #[], .func (.func 35) #[] #[]] 48)).alloc (.cells #[.int .i64 0, .int .i64 0, .int .i64 0, .int .i32 0, .int .i32 0, .int .i64 0, .int .i64 0, .int .u32 0, .int .i32 0] 32))) := Lib.hid (below_alloc (below_alloc (Below.refl _ _) _) _)
  generalize ((w.alloc (.cells #[.int .i64 2, .bool true, .bool marks, .func (.func 34) #[] #[], .func (.func 35) #[] #[]] 48)).alloc (.cells #[.int .i64 0, .int .i64 0, .int .i64 0, .int .i32 0, .int .i32 0, .int .i64 0, .int .i64 0, .int .u32 0, .int .i32 0] 32)) = W at *
  have e0 := blk_cell SH0.out 0
  have e1 := blk_cell SH0.out 1
  have e2 := blk_cell SH0.out 2
  have e3 := blk_cell SH0.out 3
  have e4 := blk_cell SH0.out 4
  go_quiet ((go_at_call 34; exact Calls.quiet_of_same (HNUM.out _ (pw_below_drewN HB0.out _))))
  clear e0 e1 e2 e3 e4
  have SH1 : Hid ((W.drewN nq).heap[w.heap.size]? = some (.cells #[.int .i64 2, .bool true, .bool marks, .func (.func 34) #[] #[], .func (.func 35) #[] #[]] 48 (0, 0))) := Lib.hid (blk_drewN SH0.out _)
  have BK1 : Hid ((W.drewN nq).heap[w.heap.size + 1]? = some (.cells #[.int .i64 0, .int .i64 0, .int .i64 0, .int .i32 0, .int .i32 0, .int .i64 0, .int .i64 0, .int .u32 0, .int .i32 0] 32 (0, 0))) := Lib.hid (blk_drewN BK0.out _)
  have HB1 : Hid (Below w.heap.size w (W.drewN nq)) := Lib.hid (pw_below_drewN HB0.out _)
  generalize W.drewN nq = W1 at *
  clear SH0 BK0 HB0
  have e0 := blk_cell SH1.out 0
  have e1 := blk_cell SH1.out 1
  have e2 := blk_cell SH1.out 2
  have e3 := blk_cell SH1.out 3
  have e4 := blk_cell SH1.out 4
  go_wp2_with fail
  refine (scalarC x _).mono ?_
  rintro e w2 ⟨rfl, ⟨m2, rfl⟩⟩
  rw [decide_eq_false HS.out]
  clear e0 e1 e2 e3 e4
  have SH2 : Hid ((W1.drewN m2).heap[w.heap.size]? = some (.cells #[.int .i64 2, .bool true, .bool marks, .func (.func 34) #[] #[], .func (.func 35) #[] #[]] 48 (0, 0))) := Lib.hid (blk_drewN SH1.out _)
  have BK2 : Hid ((W1.drewN m2).heap[w.heap.size + 1]? = some (.cells #[.int .i64 0, .int .i64 0, .int .i64 0, .int .i32 0, .int .i32 0, .int .i64 0, .int .i64 0, .int .u32 0, .int .i32 0] 32 (0, 0))) := Lib.hid (blk_drewN BK1.out _)
  have HB2 : Hid (Below w.heap.size w (W1.drewN m2)) := Lib.hid (pw_below_drewN HB1.out _)
  generalize W1.drewN m2 = W2 at *
  clear SH1 BK1 HB1
  have e0 := blk_cell SH2.out 0
  have e1 := blk_cell SH2.out 1
  have e2 := blk_cell SH2.out 2
  have e3 := blk_cell SH2.out 3
  have e4 := blk_cell SH2.out 4
  go_wp2_with fail
  refine (highC x _).mono ?_
  rintro e w2 ⟨rfl, ⟨m3, rfl⟩⟩
  rw [decide_eq_true HH.out]
  clear e0 e1 e2 e3 e4
  have SH3 : Hid ((W2.drewN m3).heap[w.heap.size]? = some (.cells #[.int .i64 2, .bool true, .bool marks, .func (.func 34) #[] #[], .func (.func 35) #[] #[]] 48 (0, 0))) := Lib.hid (blk_drewN SH2.out _)
  have BK3 : Hid ((W2.drewN m3).heap[w.heap.size + 1]? = some (.cells #[.int .i64 0, .int .i64 0, .int .i64 0, .int .i32 0, .int .i32 0, .int .i64 0, .int .i64 0, .int .u32 0, .int .i32 0] 32 (0, 0))) := Lib.hid (blk_drewN BK2.out _)
  have HB3 : Hid (Below w.heap.size w (W2.drewN m3)) := Lib.hid (pw_below_drewN HB2.out _)
  generalize W2.drewN m3 = W3 at *
  clear SH2 BK2 HB2
  have e0 := blk_cell SH3.out 0
  have e1 := blk_cell SH3.out 1
  have e2 := blk_cell SH3.out 2
  have e3 := blk_cell SH3.out 3
  have e4 := blk_cell SH3.out 4
  go_wp2_with fail
  have y1 : IntKind.i32.wrap x = x := by rw [IntKind.wrap_i32]; omega
  have y2 : IntKind.i32.wrap y = y := by rw [IntKind.wrap_i32]; omega
  go_quiet (first | (go_at_call 34; exact Calls.quiet_of_same (HNUM2.out _ (pw_below_drewN HB3.out _))) | (go_at_call 38; exact Calls.quiet_of (quietly (joinC_not _ HH.out HY.out))))
  clear y1 y2
  clear e0 e1 e2 e3 e4
  have SH4 : Hid ((W3.drewN nq).heap[w.heap.size]? = some (.cells #[.int .i64 2, .bool true, .bool marks, .func (.func 34) #[] #[], .func (.func 35) #[] #[]] 48 (0, 0))) := Lib.hid (blk_drewN SH3.out _)
  have BK4 : Hid ((W3.drewN nq).heap[w.heap.size + 1]? = some (.cells #[.int .i64 0, .int .i64 0, .int .i64 0, .int .i32 0, .int .i32 0, .int .i64 0, .int .i64 0, .int .u32 0, .int .i32 0] 32 (0, 0))) := Lib.hid (blk_drewN BK3.out _)
  have HB4 : Hid (Below w.heap.size w (W3.drewN nq)) := Lib.hid (pw_below_drewN HB3.out _)
  generalize W3.drewN nq = W4 at *
  clear SH3 BK3 HB3
  have e0 := blk_cell SH4.out 0
  have e1 := blk_cell SH4.out 1
  have e2 := blk_cell SH4.out 2
  have e3 := blk_cell SH4.out 3
  have e4 := blk_cell SH4.out 4
  have r0 := blk_cell BK4.out 0
  have q0 := blk_frozen BK4.out 0
  have r1 := blk_cell BK4.out 1
  have q1 := blk_frozen BK4.out 1
  have r2 := blk_cell BK4.out 2
  have q2 := blk_frozen BK4.out 2
  have r3 := blk_cell BK4.out 3
  have q3 := blk_frozen BK4.out 3
  have r4 := blk_cell BK4.out 4
  have q4 := blk_frozen BK4.out 4
  have r5 := blk_cell BK4.out 5
  have q5 := blk_frozen BK4.out 5
  have r6 := blk_cell BK4.out 6
  have q6 := blk_frozen BK4.out 6
  have r7 := blk_cell BK4.out 7
  have q7 := blk_frozen BK4.out 7
  have r8 := blk_cell BK4.out 8
  have q8 := blk_frozen BK4.out 8
  go_wp2_with fail
  refine bodyPost_ret (results_cell_row rfl _ _ (w.heap.size + 1) 32 _ (0, 0) _ rfl (put9 BK4.out _ _ _ _ _ _ _ _ _) Try.underlying32 rfl (by kernel_rfl)) rfl ?_
  exact ⟨rfl, below9 HB4.out (Nat.le_succ _) _ _ _ _ _ _ _ _ _⟩
set_option maxHeartbeats 1000000 in
set_option maxRecDepth 100000 in
theorem sget_pair_true2 (marks : Bool) (A : Option Addr) (c : Nat) (l : List Int) (w : World) (hC : Kd.C (Kd.int .u8) w A l.length l) (hc : l.length ≤ c) (hb : ∀ x ∈ l, Byte x) (hl : 4 ≤ l.length) (hy : Lo (num true ((l.drop 2).take 2))) (hh : Hi (num true (l.take 2))) : Calls Try.prog 29 #[shV 2 true marks true, .slice A l.length c] w fun e w' => e = .returned (gotV 0 4 1 (jn (num true (l.take 2)) (num true ((l.drop 2).take 2))) 0) ∧ Below w.heap.size w w' := by
  obtain ⟨hsl, hnum⟩ := numAt true A c 2 l w hC hc hb (by omega) (by omega)
  have hxb := num_len hb true 2 (by omega)
  have HS := Lib.hid (hi_not hh)
  have HH := Lib.hid hh
  have HY := Lib.hid hy
  have hyb := num_mid hb true (by omega)
  obtain ⟨A', hsl2, hnum2⟩ := numMid true A c l w hC hc hb (by omega)
  have HNUM2 := Lib.hid hnum2
  clear hh hy hnum2
  change Hid (∀ W : World, Below w.heap.size w W → Calls Try.prog 36 #[.slice A' 2 (c - 2)] W fun e w' => e = .returned (.int .u32 (num true ((l.drop 2).take 2))) ∧ w' = W) at HNUM2
  generalize num true ((l.drop 2).take 2) = y at *
  have HNUM := Lib.hid hnum
  clear hC hc hb hnum
  change ∀ W : World, (Instr.slice 30 (.slice A l.length c) none (some (.int .i64 2)) none).run Try.prog W = .ok (.slice A 2 c) W at hsl
  generalize num true (l.take 2) = x at *
  change Hid (∀ W : World, Below w.heap.size w W → Calls Try.prog 36 #[.slice A 2 c] W fun e w' => e = .returned (.int .u32 x) ∧ w' = W) at HNUM
  have hx0 : 0 ≤ x := hxb.1
  have hx1 : x ≤ 1114111 := by omega
  have hy0 : 0 ≤ y := hyb.1
  have hy1 : y ≤ 1114111 := by omega
  unfold shV
  change Calls Try.prog 29 #[.agg #[.int .i64 2, .bool true, .bool marks, .func (.func 36) #[] #[], .func (.func 37) #[] #[]], .slice A l.length c] w _
  go_enter Try.func29, Try.ntmps29
  go_upto_region 3 with fail
  have SH0 : Hid (((w.alloc (.cells #[.int .i64 2, .bool true, .bool marks, .func (.func 36) #[] #[], .func (.func 37) #[] #[]] 48)).alloc (.cells #[.int .i64 0, .int .i64 0, .int .i64 0, .int .i32 0, .int .i32 0, .int .i64 0, .int .i64 0, .int .u32 0, .int .i32 0] 32)).heap[w.heap.size]? = some (.cells #[.int .i64 2, .bool true, .bool marks, .func (.func 36) #[] #[], .func (.func 37) #[] #[]] 48 (0, 0))) := Lib.hid (blk_alloc (heap_alloc_new _ _) _)
  have BK0 : Hid (((w.alloc (.cells #[.int .i64 2, .bool true, .bool marks, .func (.func 36) #[] #[], .func (.func 37) #[] #[]] 48)).alloc (.cells #[.int .i64 0, .int .i64 0, .int .i64 0, .int .i32 0, .int .i32 0, .int .i64 0, .int .i64 0, .int .u32 0, .int .i32 0] 32)).heap[w.heap.size + 1]? = some (.cells #[.int .i64 0, .int .i64 0, .int .i64 0, .int .i32 0, .int .i32 0, .int .i64 0, .int .i64 0, .int .u32 0, .int .i32 0] 32 (0, 0))) := Lib.hid (blk_second _ _ _)
  have HB0 : Hid (Below w.heap.size w ((w.alloc (.cells #[.int .i64 2, .bool true, .bool marks, .func (.func 36) #[] #[], .func (.func 37) #[] #[]] 48)).alloc (.cells #[.int .i64 0, .int .i64 0, .int .i64 0, .int .i32 0, .int .i32 0, .int .i64 0, .int .i64 0, .int .u32 0, .int .i32 0] 32))) := Lib.hid (below_alloc (below_alloc (Below.refl _ _) _) _)
  generalize ((w.alloc (.cells #[.int .i64 2, .bool true, .bool marks, .func (.func 36) #[] #[], .func (.func 37) #[] #[]] 48)).alloc (.cells #[.int .i64 0, .int .i64 0, .int .i64 0, .int .i32 0, .int .i32 0, .int .i64 0, .int .i64 0, .int .u32 0, .int .i32 0] 32)) = W at *
  have e0 := blk_cell SH0.out 0
  have e1 := blk_cell SH0.out 1
  have e2 := blk_cell SH0.out 2
  have e3 := blk_cell SH0.out 3
  have e4 := blk_cell SH0.out 4
  go_quiet ((go_at_call 36; exact Calls.quiet_of_same (HNUM.out _ (pw_below_drewN HB0.out _))))
  clear e0 e1 e2 e3 e4
  have SH1 : Hid ((W.drewN nq).heap[w.heap.size]? = some (.cells #[.int .i64 2, .bool true, .bool marks, .func (.func 36) #[] #[], .func (.func 37) #[] #[]] 48 (0, 0))) := Lib.hid (blk_drewN SH0.out _)
  have BK1 : Hid ((W.drewN nq).heap[w.heap.size + 1]? = some (.cells #[.int .i64 0, .int .i64 0, .int .i64 0, .int .i32 0, .int .i32 0, .int .i64 0, .int .i64 0, .int .u32 0, .int .i32 0] 32 (0, 0))) := Lib.hid (blk_drewN BK0.out _)
  have HB1 : Hid (Below w.heap.size w (W.drewN nq)) := Lib.hid (pw_below_drewN HB0.out _)
  generalize W.drewN nq = W1 at *
  clear SH0 BK0 HB0
  have e0 := blk_cell SH1.out 0
  have e1 := blk_cell SH1.out 1
  have e2 := blk_cell SH1.out 2
  have e3 := blk_cell SH1.out 3
  have e4 := blk_cell SH1.out 4
  go_wp2_with fail
  refine (scalarC x _).mono ?_
  rintro e w2 ⟨rfl, ⟨m2, rfl⟩⟩
  rw [decide_eq_false HS.out]
  clear e0 e1 e2 e3 e4
  have SH2 : Hid ((W1.drewN m2).heap[w.heap.size]? = some (.cells #[.int .i64 2, .bool true, .bool marks, .func (.func 36) #[] #[], .func (.func 37) #[] #[]] 48 (0, 0))) := Lib.hid (blk_drewN SH1.out _)
  have BK2 : Hid ((W1.drewN m2).heap[w.heap.size + 1]? = some (.cells #[.int .i64 0, .int .i64 0, .int .i64 0, .int .i32 0, .int .i32 0, .int .i64 0, .int .i64 0, .int .u32 0, .int .i32 0] 32 (0, 0))) := Lib.hid (blk_drewN BK1.out _)
  have HB2 : Hid (Below w.heap.size w (W1.drewN m2)) := Lib.hid (pw_below_drewN HB1.out _)
  generalize W1.drewN m2 = W2 at *
  clear SH1 BK1 HB1
  have e0 := blk_cell SH2.out 0
  have e1 := blk_cell SH2.out 1
  have e2 := blk_cell SH2.out 2
  have e3 := blk_cell SH2.out 3
  have e4 := blk_cell SH2.out 4
  go_wp2_with fail
  refine (highC x _).mono ?_
  rintro e w2 ⟨rfl, ⟨m3, rfl⟩⟩
  rw [decide_eq_true HH.out]
  clear e0 e1 e2 e3 e4
  have SH3 : Hid ((W2.drewN m3).heap[w.heap.size]? = some (.cells #[.int .i64 2, .bool true, .bool marks, .func (.func 36) #[] #[], .func (.func 37) #[] #[]] 48 (0, 0))) := Lib.hid (blk_drewN SH2.out _)
  have BK3 : Hid ((W2.drewN m3).heap[w.heap.size + 1]? = some (.cells #[.int .i64 0, .int .i64 0, .int .i64 0, .int .i32 0, .int .i32 0, .int .i64 0, .int .i64 0, .int .u32 0, .int .i32 0] 32 (0, 0))) := Lib.hid (blk_drewN BK2.out _)
  have HB3 : Hid (Below w.heap.size w (W2.drewN m3)) := Lib.hid (pw_below_drewN HB2.out _)
  generalize W2.drewN m3 = W3 at *
  clear SH2 BK2 HB2
  have e0 := blk_cell SH3.out 0
  have e1 := blk_cell SH3.out 1
  have e2 := blk_cell SH3.out 2
  have e3 := blk_cell SH3.out 3
  have e4 := blk_cell SH3.out 4
  go_wp2_with fail
  have y1 : IntKind.i32.wrap x = x := by rw [IntKind.wrap_i32]; omega
  have y2 : IntKind.i32.wrap y = y := by rw [IntKind.wrap_i32]; omega
  go_quiet (first | (go_at_call 36; exact Calls.quiet_of_same (HNUM2.out _ (pw_below_drewN HB3.out _))) | (go_at_call 38; exact Calls.quiet_of (quietly (joinC _ HH.out HY.out))))
  clear y1 y2
  clear e0 e1 e2 e3 e4
  have SH4 : Hid ((W3.drewN nq).heap[w.heap.size]? = some (.cells #[.int .i64 2, .bool true, .bool marks, .func (.func 36) #[] #[], .func (.func 37) #[] #[]] 48 (0, 0))) := Lib.hid (blk_drewN SH3.out _)
  have BK4 : Hid ((W3.drewN nq).heap[w.heap.size + 1]? = some (.cells #[.int .i64 0, .int .i64 0, .int .i64 0, .int .i32 0, .int .i32 0, .int .i64 0, .int .i64 0, .int .u32 0, .int .i32 0] 32 (0, 0))) := Lib.hid (blk_drewN BK3.out _)
  have HB4 : Hid (Below w.heap.size w (W3.drewN nq)) := Lib.hid (pw_below_drewN HB3.out _)
  generalize W3.drewN nq = W4 at *
  clear SH3 BK3 HB3
  have e0 := blk_cell SH4.out 0
  have e1 := blk_cell SH4.out 1
  have e2 := blk_cell SH4.out 2
  have e3 := blk_cell SH4.out 3
  have e4 := blk_cell SH4.out 4
  have r0 := blk_cell BK4.out 0
  have q0 := blk_frozen BK4.out 0
  have r1 := blk_cell BK4.out 1
  have q1 := blk_frozen BK4.out 1
  have r2 := blk_cell BK4.out 2
  have q2 := blk_frozen BK4.out 2
  have r3 := blk_cell BK4.out 3
  have q3 := blk_frozen BK4.out 3
  have r4 := blk_cell BK4.out 4
  have q4 := blk_frozen BK4.out 4
  have r5 := blk_cell BK4.out 5
  have q5 := blk_frozen BK4.out 5
  have r6 := blk_cell BK4.out 6
  have q6 := blk_frozen BK4.out 6
  have r7 := blk_cell BK4.out 7
  have q7 := blk_frozen BK4.out 7
  have r8 := blk_cell BK4.out 8
  have q8 := blk_frozen BK4.out 8
  go_wp2_with fail
  refine bodyPost_ret (results_cell_row rfl _ _ (w.heap.size + 1) 32 _ (0, 0) _ rfl (put9 BK4.out _ _ _ _ _ _ _ _ _) Try.underlying32 rfl (by kernel_rfl)) rfl ?_
  exact ⟨rfl, below9 HB4.out (Nat.le_succ _) _ _ _ _ _ _ _ _ _⟩
set_option maxHeartbeats 1000000 in
set_option maxRecDepth 100000 in
theorem sget_torn_true2 (marks : Bool) (A : Option Addr) (c : Nat) (l : List Int) (w : World) (hC : Kd.C (Kd.int .u8) w A l.length l) (hc : l.length ≤ c) (hb : ∀ x ∈ l, Byte x) (hl : 4 ≤ l.length) (hy : ¬ Lo (num true ((l.drop 2).take 2))) (hh : Hi (num true (l.take 2))) : Calls Try.prog 29 #[shV 2 true marks true, .slice A l.length c] w fun e w' => e = .returned (gotV 10 2 0 0 0) ∧ Below w.heap.size w w' := by
  obtain ⟨hsl, hnum⟩ := numAt true A c 2 l w hC hc hb (by omega) (by omega)
  have hxb := num_len hb true 2 (by omega)
  have HS := Lib.hid (hi_not hh)
  have HH := Lib.hid hh
  have HY := Lib.hid hy
  have hyb := num_mid hb true (by omega)
  obtain ⟨A', hsl2, hnum2⟩ := numMid true A c l w hC hc hb (by omega)
  have HNUM2 := Lib.hid hnum2
  clear hh hy hnum2
  change Hid (∀ W : World, Below w.heap.size w W → Calls Try.prog 36 #[.slice A' 2 (c - 2)] W fun e w' => e = .returned (.int .u32 (num true ((l.drop 2).take 2))) ∧ w' = W) at HNUM2
  generalize num true ((l.drop 2).take 2) = y at *
  have HNUM := Lib.hid hnum
  clear hC hc hb hnum
  change ∀ W : World, (Instr.slice 30 (.slice A l.length c) none (some (.int .i64 2)) none).run Try.prog W = .ok (.slice A 2 c) W at hsl
  generalize num true (l.take 2) = x at *
  change Hid (∀ W : World, Below w.heap.size w W → Calls Try.prog 36 #[.slice A 2 c] W fun e w' => e = .returned (.int .u32 x) ∧ w' = W) at HNUM
  have hx0 : 0 ≤ x := hxb.1
  have hx1 : x ≤ 1114111 := by omega
  have hy0 : 0 ≤ y := hyb.1
  have hy1 : y ≤ 1114111 := by omega
  unfold shV
  change Calls Try.prog 29 #[.agg #[.int .i64 2, .bool true, .bool marks, .func (.func 36) #[] #[], .func (.func 37) #[] #[]], .slice A l.length c] w _
  go_enter Try.func29, Try.ntmps29
  go_upto_region 3 with fail
  have SH0 : Hid (((w.alloc (.cells #[.int .i64 2, .bool true, .bool marks, .func (.func 36) #[] #[], .func (.func 37) #[] #[]] 48)).alloc (.cells #[.int .i64 0, .int .i64 0, .int .i64 0, .int .i32 0, .int .i32 0, .int .i64 0, .int .i64 0, .int .u32 0, .int .i32 0] 32)).heap[w.heap.size]? = some (.cells #[.int .i64 2, .bool true, .bool marks, .func (.func 36) #[] #[], .func (.func 37) #[] #[]] 48 (0, 0))) := Lib.hid (blk_alloc (heap_alloc_new _ _) _)
  have BK0 : Hid (((w.alloc (.cells #[.int .i64 2, .bool true, .bool marks, .func (.func 36) #[] #[], .func (.func 37) #[] #[]] 48)).alloc (.cells #[.int .i64 0, .int .i64 0, .int .i64 0, .int .i32 0, .int .i32 0, .int .i64 0, .int .i64 0, .int .u32 0, .int .i32 0] 32)).heap[w.heap.size + 1]? = some (.cells #[.int .i64 0, .int .i64 0, .int .i64 0, .int .i32 0, .int .i32 0, .int .i64 0, .int .i64 0, .int .u32 0, .int .i32 0] 32 (0, 0))) := Lib.hid (blk_second _ _ _)
  have HB0 : Hid (Below w.heap.size w ((w.alloc (.cells #[.int .i64 2, .bool true, .bool marks, .func (.func 36) #[] #[], .func (.func 37) #[] #[]] 48)).alloc (.cells #[.int .i64 0, .int .i64 0, .int .i64 0, .int .i32 0, .int .i32 0, .int .i64 0, .int .i64 0, .int .u32 0, .int .i32 0] 32))) := Lib.hid (below_alloc (below_alloc (Below.refl _ _) _) _)
  generalize ((w.alloc (.cells #[.int .i64 2, .bool true, .bool marks, .func (.func 36) #[] #[], .func (.func 37) #[] #[]] 48)).alloc (.cells #[.int .i64 0, .int .i64 0, .int .i64 0, .int .i32 0, .int .i32 0, .int .i64 0, .int .i64 0, .int .u32 0, .int .i32 0] 32)) = W at *
  have e0 := blk_cell SH0.out 0
  have e1 := blk_cell SH0.out 1
  have e2 := blk_cell SH0.out 2
  have e3 := blk_cell SH0.out 3
  have e4 := blk_cell SH0.out 4
  go_quiet ((go_at_call 36; exact Calls.quiet_of_same (HNUM.out _ (pw_below_drewN HB0.out _))))
  clear e0 e1 e2 e3 e4
  have SH1 : Hid ((W.drewN nq).heap[w.heap.size]? = some (.cells #[.int .i64 2, .bool true, .bool marks, .func (.func 36) #[] #[], .func (.func 37) #[] #[]] 48 (0, 0))) := Lib.hid (blk_drewN SH0.out _)
  have BK1 : Hid ((W.drewN nq).heap[w.heap.size + 1]? = some (.cells #[.int .i64 0, .int .i64 0, .int .i64 0, .int .i32 0, .int .i32 0, .int .i64 0, .int .i64 0, .int .u32 0, .int .i32 0] 32 (0, 0))) := Lib.hid (blk_drewN BK0.out _)
  have HB1 : Hid (Below w.heap.size w (W.drewN nq)) := Lib.hid (pw_below_drewN HB0.out _)
  generalize W.drewN nq = W1 at *
  clear SH0 BK0 HB0
  have e0 := blk_cell SH1.out 0
  have e1 := blk_cell SH1.out 1
  have e2 := blk_cell SH1.out 2
  have e3 := blk_cell SH1.out 3
  have e4 := blk_cell SH1.out 4
  go_wp2_with fail
  refine (scalarC x _).mono ?_
  rintro e w2 ⟨rfl, ⟨m2, rfl⟩⟩
  rw [decide_eq_false HS.out]
  clear e0 e1 e2 e3 e4
  have SH2 : Hid ((W1.drewN m2).heap[w.heap.size]? = some (.cells #[.int .i64 2, .bool true, .bool marks, .func (.func 36) #[] #[], .func (.func 37) #[] #[]] 48 (0, 0))) := Lib.hid (blk_drewN SH1.out _)
  have BK2 : Hid ((W1.drewN m2).heap[w.heap.size + 1]? = some (.cells #[.int .i64 0, .int .i64 0, .int .i64 0, .int .i32 0, .int .i32 0, .int .i64 0, .int .i64 0, .int .u32 0, .int .i32 0] 32 (0, 0))) := Lib.hid (blk_drewN BK1.out _)
  have HB2 : Hid (Below w.heap.size w (W1.drewN m2)) := Lib.hid (pw_below_drewN HB1.out _)
  generalize W1.drewN m2 = W2 at *
  clear SH1 BK1 HB1
  have e0 := blk_cell SH2.out 0
  have e1 := blk_cell SH2.out 1
  have e2 := blk_cell SH2.out 2
  have e3 := blk_cell SH2.out 3
  have e4 := blk_cell SH2.out 4
  go_wp2_with fail
  refine (highC x _).mono ?_
  rintro e w2 ⟨rfl, ⟨m3, rfl⟩⟩
  rw [decide_eq_true HH.out]
  clear e0 e1 e2 e3 e4
  have SH3 : Hid ((W2.drewN m3).heap[w.heap.size]? = some (.cells #[.int .i64 2, .bool true, .bool marks, .func (.func 36) #[] #[], .func (.func 37) #[] #[]] 48 (0, 0))) := Lib.hid (blk_drewN SH2.out _)
  have BK3 : Hid ((W2.drewN m3).heap[w.heap.size + 1]? = some (.cells #[.int .i64 0, .int .i64 0, .int .i64 0, .int .i32 0, .int .i32 0, .int .i64 0, .int .i64 0, .int .u32 0, .int .i32 0] 32 (0, 0))) := Lib.hid (blk_drewN BK2.out _)
  have HB3 : Hid (Below w.heap.size w (W2.drewN m3)) := Lib.hid (pw_below_drewN HB2.out _)
  generalize W2.drewN m3 = W3 at *
  clear SH2 BK2 HB2
  have e0 := blk_cell SH3.out 0
  have e1 := blk_cell SH3.out 1
  have e2 := blk_cell SH3.out 2
  have e3 := blk_cell SH3.out 3
  have e4 := blk_cell SH3.out 4
  go_wp2_with fail
  have y1 : IntKind.i32.wrap x = x := by rw [IntKind.wrap_i32]; omega
  have y2 : IntKind.i32.wrap y = y := by rw [IntKind.wrap_i32]; omega
  go_quiet (first | (go_at_call 36; exact Calls.quiet_of_same (HNUM2.out _ (pw_below_drewN HB3.out _))) | (go_at_call 38; exact Calls.quiet_of (quietly (joinC_not _ HH.out HY.out))))
  clear y1 y2
  clear e0 e1 e2 e3 e4
  have SH4 : Hid ((W3.drewN nq).heap[w.heap.size]? = some (.cells #[.int .i64 2, .bool true, .bool marks, .func (.func 36) #[] #[], .func (.func 37) #[] #[]] 48 (0, 0))) := Lib.hid (blk_drewN SH3.out _)
  have BK4 : Hid ((W3.drewN nq).heap[w.heap.size + 1]? = some (.cells #[.int .i64 0, .int .i64 0, .int .i64 0, .int .i32 0, .int .i32 0, .int .i64 0, .int .i64 0, .int .u32 0, .int .i32 0] 32 (0, 0))) := Lib.hid (blk_drewN BK3.out _)
  have HB4 : Hid (Below w.heap.size w (W3.drewN nq)) := Lib.hid (pw_below_drewN HB3.out _)
  generalize W3.drewN nq = W4 at *
  clear SH3 BK3 HB3
  have e0 := blk_cell SH4.out 0
  have e1 := blk_cell SH4.out 1
  have e2 := blk_cell SH4.out 2
  have e3 := blk_cell SH4.out 3
  have e4 := blk_cell SH4.out 4
  have r0 := blk_cell BK4.out 0
  have q0 := blk_frozen BK4.out 0
  have r1 := blk_cell BK4.out 1
  have q1 := blk_frozen BK4.out 1
  have r2 := blk_cell BK4.out 2
  have q2 := blk_frozen BK4.out 2
  have r3 := blk_cell BK4.out 3
  have q3 := blk_frozen BK4.out 3
  have r4 := blk_cell BK4.out 4
  have q4 := blk_frozen BK4.out 4
  have r5 := blk_cell BK4.out 5
  have q5 := blk_frozen BK4.out 5
  have r6 := blk_cell BK4.out 6
  have q6 := blk_frozen BK4.out 6
  have r7 := blk_cell BK4.out 7
  have q7 := blk_frozen BK4.out 7
  have r8 := blk_cell BK4.out 8
  have q8 := blk_frozen BK4.out 8
  go_wp2_with fail
  refine bodyPost_ret (results_cell_row rfl _ _ (w.heap.size + 1) 32 _ (0, 0) _ rfl (put9 BK4.out _ _ _ _ _ _ _ _ _) Try.underlying32 rfl (by kernel_rfl)) rfl ?_
  exact ⟨rfl, below9 HB4.out (Nat.le_succ _) _ _ _ _ _ _ _ _ _⟩
end Go.Proofs.Ytflmpdfcbdfabaa.Wd
