/- The document's own plain step on encodings of two and of four bytes, walked. -/
import Derived.Test.YtflmpdfcbdfabaaWi
import Derived.Test.YtflmpdfcbdfabaaWp
namespace Go.Proofs.Ytflmpdfcbdfabaa.Wd
open Go.RowKit Go.Proofs.YtflmpdfcbdfabaaW.PrintWords Go.Proofs.YtflmpdfcbdfabaaW.PrintLast Go.Proofs.YtflmpdfcbdfabaaW.PrintMore
set_option linter.unusedVariables false
section
open Go.Proofs.Ytflmpdfcbdfabaa.PWideGets
theorem rsizeC {kind mode n : Int} {pairs marks low : Bool} (w : World) (h : shp kind mode = some (n, pairs, marks, low)) : Calls Try.prog 22 #[.int .i64 kind] w fun e w' => e = .returned (.int .i64 n) ∧ Drawn0 w w' := dragomanref04_size.calls _ _ w (g_size h)
theorem rmarkedC {kind mode n : Int} {pairs marks low : Bool} (w : World) (h : shp kind mode = some (n, pairs, marks, low)) : Calls Try.prog 23 #[.int .i64 kind] w fun e w' => e = .returned (.bool marks) ∧ Drawn0 w w' := dragomanref04_marked.calls _ _ w (g_marked h)
theorem rlittleC {kind mode n : Int} {pairs marks low : Bool} (w : World) (h : shp kind mode = some (n, pairs, marks, low)) : Calls Try.prog 25 #[.int .i64 kind, .int .i64 mode] w fun e w' => e = .returned (.bool low) ∧ Drawn0 w w' := dragomanref04_little.calls _ _ _ w (g_little h)
theorem rlittle1C {kind n : Int} {pairs marks low : Bool} (w : World) (h : shp kind 0 = some (n, pairs, marks, low)) : Calls Try.prog 25 #[.int .i64 kind, .int .i64 1] w fun e w' => e = .returned (.bool low) ∧ Drawn0 w w' := dragomanref04_little.calls _ _ _ w (g_little1 h)
theorem rhasC {kind mode n : Int} {pairs marks low : Bool} (w : World) (h : shp kind mode = some (n, pairs, marks, low)) : Calls Try.prog 14 #[.int .i64 kind] w fun e w' => e = .returned (.bool true) ∧ Drawn0 w w' := dragomanref04_Has.calls _ _ w (g_has h)
theorem rhasC_not {kind mode : Int} (w : World) (h : shp kind mode = none) : Calls Try.prog 14 #[.int .i64 kind] w fun e w' => e = .returned (.bool false) ∧ Drawn0 w w' := dragomanref04_Has.calls _ _ w (g_has_none h)
theorem rfitsC {kind mode n : Int} {pairs marks low : Bool} (bits acc held : Int) (w : World) (h : shp kind mode = some (n, pairs, marks, low)) : Calls Try.prog 21 #[.int .i64 kind, stV mode bits acc held] w fun e w' => e = .returned (.bool (decide (Fit marks mode bits acc held))) ∧ Below w.heap.size w w' := dragomanref04_Fits.calls _ _ _ _ _ _ w (g_fits _ _ _ h)
theorem rscalarC (u : Int) (w : World) : Calls Try.prog 16 #[.int .i32 u] w fun e w' => e = .returned (.bool (decide (Scal u))) ∧ Drawn0 w w' := dragomanref01_Scalar.calls _ _ w (g_scal u)
theorem rhighC (u : Int) (w : World) : Calls Try.prog 39 #[.int .i32 u] w fun e w' => e = .returned (.bool (decide (Hi u))) ∧ Drawn0 w w' := dragomanref01_High.calls _ _ w (g_high u)
theorem rjoinC {x y : Int} (w : World) (hx : Hi x) (hy : Lo y) : Calls Try.prog 40 #[.int .i32 x, .int .i32 y] w fun e w' => e = .returned (.tuple #[.int .i32 (65536 + (x - 55296) * 1024 + (y - 56320)), .bool true]) ∧ Drawn0 w w' :=
  dragomanref01_Join.calls _ _ _ _ w (by rw [g_join hx, if_pos hy])
theorem rjoinC_not {x y : Int} (w : World) (hx : Hi x) (hy : ¬ Lo y) : Calls Try.prog 40 #[.int .i32 x, .int .i32 y] w fun e w' => e = .returned (.tuple #[.int .i32 0, .bool false]) ∧ Drawn0 w w' :=
  dragomanref01_Join.calls _ _ _ _ w (by rw [g_join hx, if_neg hy])
theorem rnumC (low : Bool) (A : Option Addr) (c : Nat) (l : List Int) (n : Int) (w : World) (hC : Kd.C (Kd.int .u8) w A l.length l) (hc : l.length ≤ c) (hb : ∀ x ∈ l, Byte x) (hn : n = 2 ∨ n = 4) (hl : n ≤ l.length) :
    Calls Try.prog 30 #[.slice A l.length c, .int .i64 n, .bool low] w fun e w' => e = .returned (.int .u32 (num low (l.take n.toNat))) ∧ Drawn0 w w' :=
  dragomanref04_number.calls 5 _ _ _ _ _ _ w hC hc (g_num hb low hn hl 0)
theorem rnumTail (low : Bool) (A : Option Addr) (c : Nat) (l : List Int) (w : World) (hC : Kd.C (Kd.int .u8) w A l.length l) (hc : l.length ≤ c) (hb : ∀ x ∈ l, Byte x) (hl : 4 ≤ l.length) :
    ∃ A', (∀ W : World, (Instr.slice 30 (.slice A l.length c) (some (.int .i64 2)) none none).run Try.prog W = .ok (.slice A' (l.drop 2).length (c - 2)) W) ∧
    ∀ W : World, Below w.heap.size w W → Calls Try.prog 30 #[.slice A' (l.drop 2).length (c - 2), .int .i64 2, .bool low] W fun e w' => e = .returned (.int .u32 (num low ((l.drop 2).take 2))) ∧ Drawn0 W w' := by
  obtain ⟨i5, hi5, hz5⟩ := Option.map_eq_some_iff.1 info5
  simp only [Prod.mk.injEq] at hz5
  obtain ⟨A', h1, h2, h3⟩ := print_drop_of (P := Try.prog) (Value.int .u8) (0 : Int) 30 5 .i64 Try.underlying30 hi5 hz5.2.1 A c l 2 (by omega) (by omega) hc
  refine ⟨A', fun W => h1 W, fun W hW => ?_⟩
  have hr := h2 W (Kd.reads_of_C (enc := Value.int .u8) (d := (0 : Int)) (h1 := fun _ => rfl) (Kd.C_below hC hW))
  exact rnumC low A' (c - 2) (l.drop 2) 2 W (Kd.C_of_reads (d := (0 : Int)) hr) h3 (fun x hx => hb x (List.mem_of_mem_drop hx)) (.inl rfl) (by rw [List.length_drop]; omega)
end
set_option maxHeartbeats 2000000 in
set_option maxRecDepth 100000 in
theorem rplain_short (kind mode n : Int) (pairs marks low : Bool) (A : Option Addr) (c : Nat) (l : List Int) (w : World) (hk : shp kind mode = some (n, pairs, marks, low)) (hC : Kd.C (Kd.int .u8) w A l.length l) (hc : l.length ≤ c) (hb : ∀ x ∈ l, Byte x) (hl : (l.length : Int) < n) :
    Calls Try.prog 31 #[.int .i64 kind, .bool low, .slice A l.length c] w fun en w' => en = .returned (gotV 1 0 0 0 0) ∧ Below w.heap.size w w' := by
  clear hC hb
  have HK := Lib.hid hk
  clear hk
  go_enter Try.func31, Try.ntmps31
  go_wp2_with fail
  refine (rsizeC _ HK.out).mono ?_
  rintro e w1 ⟨rfl, hd⟩
  have hb := hd.below
  have RK1 : Hid ((w1).heap[w.heap.size]? = some (.cells #[.int .i64 0, .int .i64 0, .int .i64 0, .int .i32 0, .int .i32 0, .int .i64 0, .int .i64 0, .int .u32 0, .int .i32 0] 32 (0, 0))) := Lib.hid (blk_below (heap_alloc_new _ _) hb)
  have HB1 : Hid (Below w.heap.size w (w1)) := Lib.hid (on (below_alloc (Below.refl _ _) _) hb)
  clear hb hd
  have hz : w.heap.size < w1.heap.size := blk_lt RK1.out
  have r0 := blk_cell RK1.out 0
  have r1 := blk_cell RK1.out 1
  have r2 := blk_cell RK1.out 2
  have r3 := blk_cell RK1.out 3
  have r4 := blk_cell RK1.out 4
  have r5 := blk_cell RK1.out 5
  have r6 := blk_cell RK1.out 6
  have r7 := blk_cell RK1.out 7
  have r8 := blk_cell RK1.out 8
  have q0 := blk_frozen RK1.out 0
  have q1 := blk_frozen RK1.out 1
  have q2 := blk_frozen RK1.out 2
  have q3 := blk_frozen RK1.out 3
  have q4 := blk_frozen RK1.out 4
  have q5 := blk_frozen RK1.out 5
  have q6 := blk_frozen RK1.out 6
  have q7 := blk_frozen RK1.out 7
  have q8 := blk_frozen RK1.out 8
  go_wp2_with fail
  refine bodyPost_ret (results_cell_row rfl _ _ w.heap.size 32 _ (0, 0) _ rfl (put9 RK1.out _ _ _ _ _ _ _ _ _) Try.underlying32 rfl (by kernel_rfl)) rfl ?_
  exact ⟨rfl, below9 HB1.out (Nat.le_refl _) _ _ _ _ _ _ _ _ _⟩
set_option maxHeartbeats 2000000 in
set_option maxRecDepth 100000 in
theorem rplain_sc (kind mode n : Int) (pairs marks low : Bool) (A : Option Addr) (c : Nat) (l : List Int) (w : World) (hk : shp kind mode = some (n, pairs, marks, low)) (hC : Kd.C (Kd.int .u8) w A l.length l) (hc : l.length ≤ c) (hb : ∀ x ∈ l, Byte x) (hl : n ≤ l.length) (hs : Scal (num low (l.take n.toNat))) :
    Calls Try.prog 31 #[.int .i64 kind, .bool low, .slice A l.length c] w fun en w' => en = .returned (gotV 0 n 1 (num low (l.take n.toNat)) 0) ∧ Below w.heap.size w w' := by
  have HNUM : Hid (∀ W, Below w.heap.size w W → Calls Try.prog 30 #[.slice A l.length c, .int .i64 n, .bool low] W fun e w' => e = .returned (.int .u32 (num low (l.take (n : Int).toNat))) ∧ Drawn0 W w') := Lib.hid (fun W hW => rnumC low A c l n W (Kd.C_below hC hW) hc hb (shp_ok hk).1 (by omega))
  have hxb := num_bd hb low (shp_ok hk).1 (show n ≤ (l.length : Int) by omega)
  clear hC hc hb hxb
  generalize num low (l.take n.toNat) = x at *
  have hx0 : 0 ≤ x := hs.1
  have hx1 : x ≤ 1114111 := hs.2.1
  have hl' : ¬ (l.length : Int) < n := by omega
  have HS := Lib.hid hs
  clear hs
  have HK := Lib.hid hk
  clear hk
  go_enter Try.func31, Try.ntmps31
  go_wp2_with fail
  refine (rsizeC _ HK.out).mono ?_
  rintro e w1 ⟨rfl, hd⟩
  have hb := hd.below
  have RK1 : Hid ((w1).heap[w.heap.size]? = some (.cells #[.int .i64 0, .int .i64 0, .int .i64 0, .int .i32 0, .int .i32 0, .int .i64 0, .int .i64 0, .int .u32 0, .int .i32 0] 32 (0, 0))) := Lib.hid (blk_below (heap_alloc_new _ _) hb)
  have HB1 : Hid (Below w.heap.size w (w1)) := Lib.hid (on (below_alloc (Below.refl _ _) _) hb)
  clear hb hd
  go_wp2_with fail
  refine (HNUM.out _ HB1.out).mono ?_
  rintro e w2 ⟨rfl, hd⟩
  have hb := hd.below
  have RK2 : Hid ((w2).heap[w.heap.size]? = some (.cells #[.int .i64 0, .int .i64 0, .int .i64 0, .int .i32 0, .int .i32 0, .int .i64 0, .int .i64 0, .int .u32 0, .int .i32 0] 32 (0, 0))) := Lib.hid (blk_below RK1.out hb)
  have HB2 : Hid (Below w.heap.size w (w2)) := Lib.hid (on HB1.out hb)
  clear hb hd RK1 HB1
  go_wp2_with fail
  refine (rscalarC x _).mono ?_
  rintro e w3 ⟨rfl, hd⟩
  rw [decide_eq_true HS.out]
  have hb := hd.below
  have RK3 : Hid ((w3).heap[w.heap.size]? = some (.cells #[.int .i64 0, .int .i64 0, .int .i64 0, .int .i32 0, .int .i32 0, .int .i64 0, .int .i64 0, .int .u32 0, .int .i32 0] 32 (0, 0))) := Lib.hid (blk_below RK2.out hb)
  have HB3 : Hid (Below w.heap.size w (w3)) := Lib.hid (on HB2.out hb)
  clear hb hd RK2 HB2
  have hz : w.heap.size < w3.heap.size := blk_lt RK3.out
  have r0 := blk_cell RK3.out 0
  have r1 := blk_cell RK3.out 1
  have r2 := blk_cell RK3.out 2
  have r3 := blk_cell RK3.out 3
  have r4 := blk_cell RK3.out 4
  have r5 := blk_cell RK3.out 5
  have r6 := blk_cell RK3.out 6
  have r7 := blk_cell RK3.out 7
  have r8 := blk_cell RK3.out 8
  have q0 := blk_frozen RK3.out 0
  have q1 := blk_frozen RK3.out 1
  have q2 := blk_frozen RK3.out 2
  have q3 := blk_frozen RK3.out 3
  have q4 := blk_frozen RK3.out 4
  have q5 := blk_frozen RK3.out 5
  have q6 := blk_frozen RK3.out 6
  have q7 := blk_frozen RK3.out 7
  have q8 := blk_frozen RK3.out 8
  go_wp2_with fail
  refine bodyPost_ret (results_cell_row rfl _ _ w.heap.size 32 _ (0, 0) _ rfl (put9 RK3.out _ _ _ _ _ _ _ _ _) Try.underlying32 rfl (by kernel_rfl)) rfl ?_
  exact ⟨rfl, below9 HB3.out (Nat.le_refl _) _ _ _ _ _ _ _ _ _⟩
set_option maxHeartbeats 2000000 in
set_option maxRecDepth 100000 in
theorem rplain_big (kind mode : Int) (pairs marks low : Bool) (A : Option Addr) (c : Nat) (l : List Int) (w : World) (hk : shp kind mode = some (4, pairs, marks, low)) (hC : Kd.C (Kd.int .u8) w A l.length l) (hc : l.length ≤ c) (hb : ∀ x ∈ l, Byte x) (hl : 4 ≤ l.length) (hx1 : 1114111 < num low (l.take 4)) :
    Calls Try.prog 31 #[.int .i64 kind, .bool low, .slice A l.length c] w fun en w' => en = .returned (gotV 10 4 0 0 0) ∧ Below w.heap.size w w' := by
  have HNUM : Hid (∀ W, Below w.heap.size w W → Calls Try.prog 30 #[.slice A l.length c, .int .i64 4, .bool low] W fun e w' => e = .returned (.int .u32 (num low (l.take (4 : Int).toNat))) ∧ Drawn0 W w') := Lib.hid (fun W hW => rnumC low A c l 4 W (Kd.C_below hC hW) hc hb (shp_ok hk).1 (by omega))
  have hxb := num_bd hb low (shp_ok hk).1 (show 4 ≤ (l.length : Int) by omega)
  clear hC hc hb
  rw [show (4 : Int).toNat = 4 from rfl] at HNUM hxb
  generalize num low (l.take 4) = x at *
  have hx0 : 0 ≤ x := hxb.1
  have hx2 : ¬ x ≤ 1114111 := by omega
  clear hxb
  have hl' : ¬ (l.length : Int) < 4 := by omega
  have HK := Lib.hid hk
  clear hk
  go_enter Try.func31, Try.ntmps31
  go_wp2_with fail
  refine (rsizeC _ HK.out).mono ?_
  rintro e w1 ⟨rfl, hd⟩
  have hb := hd.below
  have RK1 : Hid ((w1).heap[w.heap.size]? = some (.cells #[.int .i64 0, .int .i64 0, .int .i64 0, .int .i32 0, .int .i32 0, .int .i64 0, .int .i64 0, .int .u32 0, .int .i32 0] 32 (0, 0))) := Lib.hid (blk_below (heap_alloc_new _ _) hb)
  have HB1 : Hid (Below w.heap.size w (w1)) := Lib.hid (on (below_alloc (Below.refl _ _) _) hb)
  clear hb hd
  go_wp2_with fail
  refine (HNUM.out _ HB1.out).mono ?_
  rintro e w2 ⟨rfl, hd⟩
  have hb := hd.below
  have RK2 : Hid ((w2).heap[w.heap.size]? = some (.cells #[.int .i64 0, .int .i64 0, .int .i64 0, .int .i32 0, .int .i32 0, .int .i64 0, .int .i64 0, .int .u32 0, .int .i32 0] 32 (0, 0))) := Lib.hid (blk_below RK1.out hb)
  have HB2 : Hid (Below w.heap.size w (w2)) := Lib.hid (on HB1.out hb)
  clear hb hd RK1 HB1
  have hz : w.heap.size < w2.heap.size := blk_lt RK2.out
  have r0 := blk_cell RK2.out 0
  have r1 := blk_cell RK2.out 1
  have r2 := blk_cell RK2.out 2
  have r3 := blk_cell RK2.out 3
  have r4 := blk_cell RK2.out 4
  have r5 := blk_cell RK2.out 5
  have r6 := blk_cell RK2.out 6
  have r7 := blk_cell RK2.out 7
  have r8 := blk_cell RK2.out 8
  have q0 := blk_frozen RK2.out 0
  have q1 := blk_frozen RK2.out 1
  have q2 := blk_frozen RK2.out 2
  have q3 := blk_frozen RK2.out 3
  have q4 := blk_frozen RK2.out 4
  have q5 := blk_frozen RK2.out 5
  have q6 := blk_frozen RK2.out 6
  have q7 := blk_frozen RK2.out 7
  have q8 := blk_frozen RK2.out 8
  go_wp2_with fail
  refine bodyPost_ret (results_cell_row rfl _ _ w.heap.size 32 _ (0, 0) _ rfl (put9 RK2.out _ _ _ _ _ _ _ _ _) Try.underlying32 rfl (by kernel_rfl)) rfl ?_
  exact ⟨rfl, below9 HB2.out (Nat.le_refl _) _ _ _ _ _ _ _ _ _⟩
set_option maxHeartbeats 2000000 in
set_option maxRecDepth 100000 in
theorem rplain_no4 (kind mode : Int) (pairs marks low : Bool) (A : Option Addr) (c : Nat) (l : List Int) (w : World) (hk : shp kind mode = some (4, pairs, marks, low)) (hC : Kd.C (Kd.int .u8) w A l.length l) (hc : l.length ≤ c) (hb : ∀ x ∈ l, Byte x) (hl : 4 ≤ l.length) (hs : ¬ Scal (num low (l.take 4))) (hx1 : num low (l.take 4) ≤ 1114111) :
    Calls Try.prog 31 #[.int .i64 kind, .bool low, .slice A l.length c] w fun en w' => en = .returned (gotV 10 4 0 0 0) ∧ Below w.heap.size w w' := by
  have HNUM : Hid (∀ W, Below w.heap.size w W → Calls Try.prog 30 #[.slice A l.length c, .int .i64 4, .bool low] W fun e w' => e = .returned (.int .u32 (num low (l.take (4 : Int).toNat))) ∧ Drawn0 W w') := Lib.hid (fun W hW => rnumC low A c l 4 W (Kd.C_below hC hW) hc hb (shp_ok hk).1 (by omega))
  have hxb := num_bd hb low (shp_ok hk).1 (show 4 ≤ (l.length : Int) by omega)
  clear hC hc hb
  rw [show (4 : Int).toNat = 4 from rfl] at HNUM hxb
  generalize num low (l.take 4) = x at *
  have hx0 : 0 ≤ x := hxb.1
  clear hxb
  have hl' : ¬ (l.length : Int) < 4 := by omega
  have HS := Lib.hid hs
  clear hs
  have HK := Lib.hid hk
  clear hk
  go_enter Try.func31, Try.ntmps31
  go_wp2_with fail
  refine (rsizeC _ HK.out).mono ?_
  rintro e w1 ⟨rfl, hd⟩
  have hb := hd.below
  have RK1 : Hid ((w1).heap[w.heap.size]? = some (.cells #[.int .i64 0, .int .i64 0, .int .i64 0, .int .i32 0, .int .i32 0, .int .i64 0, .int .i64 0, .int .u32 0, .int .i32 0] 32 (0, 0))) := Lib.hid (blk_below (heap_alloc_new _ _) hb)
  have HB1 : Hid (Below w.heap.size w (w1)) := Lib.hid (on (below_alloc (Below.refl _ _) _) hb)
  clear hb hd
  go_wp2_with fail
  refine (HNUM.out _ HB1.out).mono ?_
  rintro e w2 ⟨rfl, hd⟩
  have hb := hd.below
  have RK2 : Hid ((w2).heap[w.heap.size]? = some (.cells #[.int .i64 0, .int .i64 0, .int .i64 0, .int .i32 0, .int .i32 0, .int .i64 0, .int .i64 0, .int .u32 0, .int .i32 0] 32 (0, 0))) := Lib.hid (blk_below RK1.out hb)
  have HB2 : Hid (Below w.heap.size w (w2)) := Lib.hid (on HB1.out hb)
  clear hb hd RK1 HB1
  go_wp2_with fail
  refine (rscalarC x _).mono ?_
  rintro e w3 ⟨rfl, hd⟩
  rw [decide_eq_false HS.out]
  have hb := hd.below
  have RK3 : Hid ((w3).heap[w.heap.size]? = some (.cells #[.int .i64 0, .int .i64 0, .int .i64 0, .int .i32 0, .int .i32 0, .int .i64 0, .int .i64 0, .int .u32 0, .int .i32 0] 32 (0, 0))) := Lib.hid (blk_below RK2.out hb)
  have HB3 : Hid (Below w.heap.size w (w3)) := Lib.hid (on HB2.out hb)
  clear hb hd RK2 HB2
  have hz : w.heap.size < w3.heap.size := blk_lt RK3.out
  have r0 := blk_cell RK3.out 0
  have r1 := blk_cell RK3.out 1
  have r2 := blk_cell RK3.out 2
  have r3 := blk_cell RK3.out 3
  have r4 := blk_cell RK3.out 4
  have r5 := blk_cell RK3.out 5
  have r6 := blk_cell RK3.out 6
  have r7 := blk_cell RK3.out 7
  have r8 := blk_cell RK3.out 8
  have q0 := blk_frozen RK3.out 0
  have q1 := blk_frozen RK3.out 1
  have q2 := blk_frozen RK3.out 2
  have q3 := blk_frozen RK3.out 3
  have q4 := blk_frozen RK3.out 4
  have q5 := blk_frozen RK3.out 5
  have q6 := blk_frozen RK3.out 6
  have q7 := blk_frozen RK3.out 7
  have q8 := blk_frozen RK3.out 8
  go_wp2_with fail
  refine bodyPost_ret (results_cell_row rfl _ _ w.heap.size 32 _ (0, 0) _ rfl (put9 RK3.out _ _ _ _ _ _ _ _ _) Try.underlying32 rfl (by kernel_rfl)) rfl ?_
  exact ⟨rfl, below9 HB3.out (Nat.le_refl _) _ _ _ _ _ _ _ _ _⟩
set_option maxHeartbeats 2000000 in
set_option maxRecDepth 100000 in
theorem rplain_no9 (kind mode : Int) (pairs marks low : Bool) (A : Option Addr) (c : Nat) (l : List Int) (w : World) (hk : shp kind mode = some (2, pairs, marks, low)) (hC : Kd.C (Kd.int .u8) w A l.length l) (hc : l.length ≤ c) (hb : ∀ x ∈ l, Byte x) (hl : 2 ≤ l.length) (hs : ¬ Scal (num low (l.take 2))) (h9 : kind = 9) :
    Calls Try.prog 31 #[.int .i64 kind, .bool low, .slice A l.length c] w fun en w' => en = .returned (gotV 10 2 0 0 0) ∧ Below w.heap.size w w' := by
  have HNUM : Hid (∀ W, Below w.heap.size w W → Calls Try.prog 30 #[.slice A l.length c, .int .i64 2, .bool low] W fun e w' => e = .returned (.int .u32 (num low (l.take (2 : Int).toNat))) ∧ Drawn0 W w') := Lib.hid (fun W hW => rnumC low A c l 2 W (Kd.C_below hC hW) hc hb (shp_ok hk).1 (by omega))
  have hxb := num_bd hb low (shp_ok hk).1 (show 2 ≤ (l.length : Int) by omega)
  clear hC hc hb
  rw [show (2 : Int).toNat = 2 from rfl] at HNUM hxb
  generalize num low (l.take 2) = x at *
  have hx0 : 0 ≤ x := hxb.1
  have hx2 : x < 65536 := hxb.2.1 rfl
  have hx1 : x ≤ 1114111 := by omega
  clear hxb
  have hl' : ¬ (l.length : Int) < 2 := by omega
  have HS := Lib.hid hs
  clear hs
  subst h9
  have HK := Lib.hid hk
  clear hk
  go_enter Try.func31, Try.ntmps31
  go_wp2_with fail
  refine (rsizeC _ HK.out).mono ?_
  rintro e w1 ⟨rfl, hd⟩
  have hb := hd.below
  have RK1 : Hid ((w1).heap[w.heap.size]? = some (.cells #[.int .i64 0, .int .i64 0, .int .i64 0, .int .i32 0, .int .i32 0, .int .i64 0, .int .i64 0, .int .u32 0, .int .i32 0] 32 (0, 0))) := Lib.hid (blk_below (heap_alloc_new _ _) hb)
  have HB1 : Hid (Below w.heap.size w (w1)) := Lib.hid (on (below_alloc (Below.refl _ _) _) hb)
  clear hb hd
  go_wp2_with fail
  refine (HNUM.out _ HB1.out).mono ?_
  rintro e w2 ⟨rfl, hd⟩
  have hb := hd.below
  have RK2 : Hid ((w2).heap[w.heap.size]? = some (.cells #[.int .i64 0, .int .i64 0, .int .i64 0, .int .i32 0, .int .i32 0, .int .i64 0, .int .i64 0, .int .u32 0, .int .i32 0] 32 (0, 0))) := Lib.hid (blk_below RK1.out hb)
  have HB2 : Hid (Below w.heap.size w (w2)) := Lib.hid (on HB1.out hb)
  clear hb hd RK1 HB1
  go_wp2_with fail
  refine (rscalarC x _).mono ?_
  rintro e w3 ⟨rfl, hd⟩
  rw [decide_eq_false HS.out]
  have hb := hd.below
  have RK3 : Hid ((w3).heap[w.heap.size]? = some (.cells #[.int .i64 0, .int .i64 0, .int .i64 0, .int .i32 0, .int .i32 0, .int .i64 0, .int .i64 0, .int .u32 0, .int .i32 0] 32 (0, 0))) := Lib.hid (blk_below RK2.out hb)
  have HB3 : Hid (Below w.heap.size w (w3)) := Lib.hid (on HB2.out hb)
  clear hb hd RK2 HB2
  have hz : w.heap.size < w3.heap.size := blk_lt RK3.out
  have r0 := blk_cell RK3.out 0
  have r1 := blk_cell RK3.out 1
  have r2 := blk_cell RK3.out 2
  have r3 := blk_cell RK3.out 3
  have r4 := blk_cell RK3.out 4
  have r5 := blk_cell RK3.out 5
  have r6 := blk_cell RK3.out 6
  have r7 := blk_cell RK3.out 7
  have r8 := blk_cell RK3.out 8
  have q0 := blk_frozen RK3.out 0
  have q1 := blk_frozen RK3.out 1
  have q2 := blk_frozen RK3.out 2
  have q3 := blk_frozen RK3.out 3
  have q4 := blk_frozen RK3.out 4
  have q5 := blk_frozen RK3.out 5
  have q6 := blk_frozen RK3.out 6
  have q7 := blk_frozen RK3.out 7
  have q8 := blk_frozen RK3.out 8
  go_wp2_with fail
  refine bodyPost_ret (results_cell_row rfl _ _ w.heap.size 32 _ (0, 0) _ rfl (put9 RK3.out _ _ _ _ _ _ _ _ _) Try.underlying32 rfl (by kernel_rfl)) rfl ?_
  exact ⟨rfl, below9 HB3.out (Nat.le_refl _) _ _ _ _ _ _ _ _ _⟩
set_option maxHeartbeats 2000000 in
set_option maxRecDepth 100000 in
theorem rplain_no10 (kind mode : Int) (pairs marks low : Bool) (A : Option Addr) (c : Nat) (l : List Int) (w : World) (hk : shp kind mode = some (2, pairs, marks, low)) (hC : Kd.C (Kd.int .u8) w A l.length l) (hc : l.length ≤ c) (hb : ∀ x ∈ l, Byte x) (hl : 2 ≤ l.length) (hs : ¬ Scal (num low (l.take 2))) (h10 : kind = 10) :
    Calls Try.prog 31 #[.int .i64 kind, .bool low, .slice A l.length c] w fun en w' => en = .returned (gotV 10 2 0 0 0) ∧ Below w.heap.size w w' := by
  have HNUM : Hid (∀ W, Below w.heap.size w W → Calls Try.prog 30 #[.slice A l.length c, .int .i64 2, .bool low] W fun e w' => e = .returned (.int .u32 (num low (l.take (2 : Int).toNat))) ∧ Drawn0 W w') := Lib.hid (fun W hW => rnumC low A c l 2 W (Kd.C_below hC hW) hc hb (shp_ok hk).1 (by omega))
  have hxb := num_bd hb low (shp_ok hk).1 (show 2 ≤ (l.length : Int) by omega)
  clear hC hc hb
  rw [show (2 : Int).toNat = 2 from rfl] at HNUM hxb
  generalize num low (l.take 2) = x at *
  have hx0 : 0 ≤ x := hxb.1
  have hx2 : x < 65536 := hxb.2.1 rfl
  have hx1 : x ≤ 1114111 := by omega
  clear hxb
  have hl' : ¬ (l.length : Int) < 2 := by omega
  have HS := Lib.hid hs
  clear hs
  subst h10
  have HK := Lib.hid hk
  clear hk
  go_enter Try.func31, Try.ntmps31
  go_wp2_with fail
  refine (rsizeC _ HK.out).mono ?_
  rintro e w1 ⟨rfl, hd⟩
  have hb := hd.below
  have RK1 : Hid ((w1).heap[w.heap.size]? = some (.cells #[.int .i64 0, .int .i64 0, .int .i64 0, .int .i32 0, .int .i32 0, .int .i64 0, .int .i64 0, .int .u32 0, .int .i32 0] 32 (0, 0))) := Lib.hid (blk_below (heap_alloc_new _ _) hb)
  have HB1 : Hid (Below w.heap.size w (w1)) := Lib.hid (on (below_alloc (Below.refl _ _) _) hb)
  clear hb hd
  go_wp2_with fail
  refine (HNUM.out _ HB1.out).mono ?_
  rintro e w2 ⟨rfl, hd⟩
  have hb := hd.below
  have RK2 : Hid ((w2).heap[w.heap.size]? = some (.cells #[.int .i64 0, .int .i64 0, .int .i64 0, .int .i32 0, .int .i32 0, .int .i64 0, .int .i64 0, .int .u32 0, .int .i32 0] 32 (0, 0))) := Lib.hid (blk_below RK1.out hb)
  have HB2 : Hid (Below w.heap.size w (w2)) := Lib.hid (on HB1.out hb)
  clear hb hd RK1 HB1
  go_wp2_with fail
  refine (rscalarC x _).mono ?_
  rintro e w3 ⟨rfl, hd⟩
  rw [decide_eq_false HS.out]
  have hb := hd.below
  have RK3 : Hid ((w3).heap[w.heap.size]? = some (.cells #[.int .i64 0, .int .i64 0, .int .i64 0, .int .i32 0, .int .i32 0, .int .i64 0, .int .i64 0, .int .u32 0, .int .i32 0] 32 (0, 0))) := Lib.hid (blk_below RK2.out hb)
  have HB3 : Hid (Below w.heap.size w (w3)) := Lib.hid (on HB2.out hb)
  clear hb hd RK2 HB2
  have hz : w.heap.size < w3.heap.size := blk_lt RK3.out
  have r0 := blk_cell RK3.out 0
  have r1 := blk_cell RK3.out 1
  have r2 := blk_cell RK3.out 2
  have r3 := blk_cell RK3.out 3
  have r4 := blk_cell RK3.out 4
  have r5 := blk_cell RK3.out 5
  have r6 := blk_cell RK3.out 6
  have r7 := blk_cell RK3.out 7
  have r8 := blk_cell RK3.out 8
  have q0 := blk_frozen RK3.out 0
  have q1 := blk_frozen RK3.out 1
  have q2 := blk_frozen RK3.out 2
  have q3 := blk_frozen RK3.out 3
  have q4 := blk_frozen RK3.out 4
  have q5 := blk_frozen RK3.out 5
  have q6 := blk_frozen RK3.out 6
  have q7 := blk_frozen RK3.out 7
  have q8 := blk_frozen RK3.out 8
  go_wp2_with fail
  refine bodyPost_ret (results_cell_row rfl _ _ w.heap.size 32 _ (0, 0) _ rfl (put9 RK3.out _ _ _ _ _ _ _ _ _) Try.underlying32 rfl (by kernel_rfl)) rfl ?_
  exact ⟨rfl, below9 HB3.out (Nat.le_refl _) _ _ _ _ _ _ _ _ _⟩
set_option maxHeartbeats 2000000 in
set_option maxRecDepth 100000 in
theorem rplain_lone (kind mode : Int) (pairs marks low : Bool) (A : Option Addr) (c : Nat) (l : List Int) (w : World) (hk : shp kind mode = some (2, pairs, marks, low)) (hC : Kd.C (Kd.int .u8) w A l.length l) (hc : l.length ≤ c) (hb : ∀ x ∈ l, Byte x) (hl : 2 ≤ l.length) (hs : ¬ Scal (num low (l.take 2))) (h9 : (kind == 9) = false) (h10 : (kind == 10) = false) (hh : ¬ Hi (num low (l.take 2))) :
    Calls Try.prog 31 #[.int .i64 kind, .bool low, .slice A l.length c] w fun en w' => en = .returned (gotV 10 2 0 0 0) ∧ Below w.heap.size w w' := by
  have HNUM : Hid (∀ W, Below w.heap.size w W → Calls Try.prog 30 #[.slice A l.length c, .int .i64 2, .bool low] W fun e w' => e = .returned (.int .u32 (num low (l.take (2 : Int).toNat))) ∧ Drawn0 W w') := Lib.hid (fun W hW => rnumC low A c l 2 W (Kd.C_below hC hW) hc hb (shp_ok hk).1 (by omega))
  have hxb := num_bd hb low (shp_ok hk).1 (show 2 ≤ (l.length : Int) by omega)
  clear hC hc hb
  rw [show (2 : Int).toNat = 2 from rfl] at HNUM hxb
  generalize num low (l.take 2) = x at *
  have hx0 : 0 ≤ x := hxb.1
  have hx2 : x < 65536 := hxb.2.1 rfl
  have hx1 : x ≤ 1114111 := by omega
  clear hxb
  have hl' : ¬ (l.length : Int) < 2 := by omega
  have HS := Lib.hid hs
  clear hs
  have HH := Lib.hid hh
  clear hh
  have HK := Lib.hid hk
  clear hk
  go_enter Try.func31, Try.ntmps31
  go_wp2_with fail
  refine (rsizeC _ HK.out).mono ?_
  rintro e w1 ⟨rfl, hd⟩
  have hb := hd.below
  have RK1 : Hid ((w1).heap[w.heap.size]? = some (.cells #[.int .i64 0, .int .i64 0, .int .i64 0, .int .i32 0, .int .i32 0, .int .i64 0, .int .i64 0, .int .u32 0, .int .i32 0] 32 (0, 0))) := Lib.hid (blk_below (heap_alloc_new _ _) hb)
  have HB1 : Hid (Below w.heap.size w (w1)) := Lib.hid (on (below_alloc (Below.refl _ _) _) hb)
  clear hb hd
  go_wp2_with fail
  refine (HNUM.out _ HB1.out).mono ?_
  rintro e w2 ⟨rfl, hd⟩
  have hb := hd.below
  have RK2 : Hid ((w2).heap[w.heap.size]? = some (.cells #[.int .i64 0, .int .i64 0, .int .i64 0, .int .i32 0, .int .i32 0, .int .i64 0, .int .i64 0, .int .u32 0, .int .i32 0] 32 (0, 0))) := Lib.hid (blk_below RK1.out hb)
  have HB2 : Hid (Below w.heap.size w (w2)) := Lib.hid (on HB1.out hb)
  clear hb hd RK1 HB1
  go_wp2_with fail
  refine (rscalarC x _).mono ?_
  rintro e w3 ⟨rfl, hd⟩
  rw [decide_eq_false HS.out]
  have hb := hd.below
  have RK3 : Hid ((w3).heap[w.heap.size]? = some (.cells #[.int .i64 0, .int .i64 0, .int .i64 0, .int .i32 0, .int .i32 0, .int .i64 0, .int .i64 0, .int .u32 0, .int .i32 0] 32 (0, 0))) := Lib.hid (blk_below RK2.out hb)
  have HB3 : Hid (Below w.heap.size w (w3)) := Lib.hid (on HB2.out hb)
  clear hb hd RK2 HB2
  go_wp2_with fail
  refine (rhighC x _).mono ?_
  rintro e w4 ⟨rfl, hd⟩
  rw [decide_eq_false HH.out]
  have hb := hd.below
  have RK4 : Hid ((w4).heap[w.heap.size]? = some (.cells #[.int .i64 0, .int .i64 0, .int .i64 0, .int .i32 0, .int .i32 0, .int .i64 0, .int .i64 0, .int .u32 0, .int .i32 0] 32 (0, 0))) := Lib.hid (blk_below RK3.out hb)
  have HB4 : Hid (Below w.heap.size w (w4)) := Lib.hid (on HB3.out hb)
  clear hb hd RK3 HB3
  have hz : w.heap.size < w4.heap.size := blk_lt RK4.out
  have r0 := blk_cell RK4.out 0
  have r1 := blk_cell RK4.out 1
  have r2 := blk_cell RK4.out 2
  have r3 := blk_cell RK4.out 3
  have r4 := blk_cell RK4.out 4
  have r5 := blk_cell RK4.out 5
  have r6 := blk_cell RK4.out 6
  have r7 := blk_cell RK4.out 7
  have r8 := blk_cell RK4.out 8
  have q0 := blk_frozen RK4.out 0
  have q1 := blk_frozen RK4.out 1
  have q2 := blk_frozen RK4.out 2
  have q3 := blk_frozen RK4.out 3
  have q4 := blk_frozen RK4.out 4
  have q5 := blk_frozen RK4.out 5
  have q6 := blk_frozen RK4.out 6
  have q7 := blk_frozen RK4.out 7
  have q8 := blk_frozen RK4.out 8
  go_wp2_with fail
  refine bodyPost_ret (results_cell_row rfl _ _ w.heap.size 32 _ (0, 0) _ rfl (put9 RK4.out _ _ _ _ _ _ _ _ _) Try.underlying32 rfl (by kernel_rfl)) rfl ?_
  exact ⟨rfl, below9 HB4.out (Nat.le_refl _) _ _ _ _ _ _ _ _ _⟩
set_option maxHeartbeats 2000000 in
set_option maxRecDepth 100000 in
theorem rplain_few (kind mode : Int) (pairs marks low : Bool) (A : Option Addr) (c : Nat) (l : List Int) (w : World) (hk : shp kind mode = some (2, pairs, marks, low)) (hC : Kd.C (Kd.int .u8) w A l.length l) (hc : l.length ≤ c) (hb : ∀ x ∈ l, Byte x) (h9 : (kind == 9) = false) (h10 : (kind == 10) = false) (hl : 2 ≤ l.length) (hh : Hi (num low (l.take 2))) (hl4 : (l.length : Int) < 4) :
    Calls Try.prog 31 #[.int .i64 kind, .bool low, .slice A l.length c] w fun en w' => en = .returned (gotV 1 0 0 0 0) ∧ Below w.heap.size w w' := by
  have HNUM : Hid (∀ W, Below w.heap.size w W → Calls Try.prog 30 #[.slice A l.length c, .int .i64 2, .bool low] W fun e w' => e = .returned (.int .u32 (num low (l.take (2 : Int).toNat))) ∧ Drawn0 W w') := Lib.hid (fun W hW => rnumC low A c l 2 W (Kd.C_below hC hW) hc hb (shp_ok hk).1 (by omega))
  have hxb := num_bd hb low (shp_ok hk).1 (show 2 ≤ (l.length : Int) by omega)
  clear hC hc hb
  rw [show (2 : Int).toNat = 2 from rfl] at HNUM hxb
  generalize num low (l.take 2) = x at *
  have hx0 : 0 ≤ x := hxb.1
  have hx2 : x < 65536 := hxb.2.1 rfl
  have hx1 : x ≤ 1114111 := by omega
  clear hxb
  have hl' : ¬ (l.length : Int) < 2 := by omega
  have HH := Lib.hid hh
  clear hh
  have HK := Lib.hid hk
  clear hk
  go_enter Try.func31, Try.ntmps31
  go_wp2_with fail
  refine (rsizeC _ HK.out).mono ?_
  rintro e w1 ⟨rfl, hd⟩
  have hb := hd.below
  have RK1 : Hid ((w1).heap[w.heap.size]? = some (.cells #[.int .i64 0, .int .i64 0, .int .i64 0, .int .i32 0, .int .i32 0, .int .i64 0, .int .i64 0, .int .u32 0, .int .i32 0] 32 (0, 0))) := Lib.hid (blk_below (heap_alloc_new _ _) hb)
  have HB1 : Hid (Below w.heap.size w (w1)) := Lib.hid (on (below_alloc (Below.refl _ _) _) hb)
  clear hb hd
  go_wp2_with fail
  refine (HNUM.out _ HB1.out).mono ?_
  rintro e w2 ⟨rfl, hd⟩
  have hb := hd.below
  have RK2 : Hid ((w2).heap[w.heap.size]? = some (.cells #[.int .i64 0, .int .i64 0, .int .i64 0, .int .i32 0, .int .i32 0, .int .i64 0, .int .i64 0, .int .u32 0, .int .i32 0] 32 (0, 0))) := Lib.hid (blk_below RK1.out hb)
  have HB2 : Hid (Below w.heap.size w (w2)) := Lib.hid (on HB1.out hb)
  clear hb hd RK1 HB1
  go_wp2_with fail
  refine (rscalarC x _).mono ?_
  rintro e w3 ⟨rfl, hd⟩
  rw [decide_eq_false (hi_not HH.out)]
  have hb := hd.below
  have RK3 : Hid ((w3).heap[w.heap.size]? = some (.cells #[.int .i64 0, .int .i64 0, .int .i64 0, .int .i32 0, .int .i32 0, .int .i64 0, .int .i64 0, .int .u32 0, .int .i32 0] 32 (0, 0))) := Lib.hid (blk_below RK2.out hb)
  have HB3 : Hid (Below w.heap.size w (w3)) := Lib.hid (on HB2.out hb)
  clear hb hd RK2 HB2
  go_wp2_with fail
  refine (rhighC x _).mono ?_
  rintro e w4 ⟨rfl, hd⟩
  rw [decide_eq_true HH.out]
  have hb := hd.below
  have RK4 : Hid ((w4).heap[w.heap.size]? = some (.cells #[.int .i64 0, .int .i64 0, .int .i64 0, .int .i32 0, .int .i32 0, .int .i64 0, .int .i64 0, .int .u32 0, .int .i32 0] 32 (0, 0))) := Lib.hid (blk_below RK3.out hb)
  have HB4 : Hid (Below w.heap.size w (w4)) := Lib.hid (on HB3.out hb)
  clear hb hd RK3 HB3
  have hz : w.heap.size < w4.heap.size := blk_lt RK4.out
  have r0 := blk_cell RK4.out 0
  have r1 := blk_cell RK4.out 1
  have r2 := blk_cell RK4.out 2
  have r3 := blk_cell RK4.out 3
  have r4 := blk_cell RK4.out 4
  have r5 := blk_cell RK4.out 5
  have r6 := blk_cell RK4.out 6
  have r7 := blk_cell RK4.out 7
  have r8 := blk_cell RK4.out 8
  have q0 := blk_frozen RK4.out 0
  have q1 := blk_frozen RK4.out 1
  have q2 := blk_frozen RK4.out 2
  have q3 := blk_frozen RK4.out 3
  have q4 := blk_frozen RK4.out 4
  have q5 := blk_frozen RK4.out 5
  have q6 := blk_frozen RK4.out 6
  have q7 := blk_frozen RK4.out 7
  have q8 := blk_frozen RK4.out 8
  go_wp2_with fail
  refine bodyPost_ret (results_cell_row rfl _ _ w.heap.size 32 _ (0, 0) _ rfl (put9 RK4.out _ _ _ _ _ _ _ _ _) Try.underlying32 rfl (by kernel_rfl)) rfl ?_
  exact ⟨rfl, below9 HB4.out (Nat.le_refl _) _ _ _ _ _ _ _ _ _⟩
set_option maxHeartbeats 2000000 in
set_option maxRecDepth 100000 in
theorem rplain_torn (kind mode : Int) (pairs marks low : Bool) (A : Option Addr) (c : Nat) (l : List Int) (w : World) (hk : shp kind mode = some (2, pairs, marks, low)) (hC : Kd.C (Kd.int .u8) w A l.length l) (hc : l.length ≤ c) (hb : ∀ x ∈ l, Byte x) (h9 : (kind == 9) = false) (h10 : (kind == 10) = false) (hl : 2 ≤ l.length) (hh : Hi (num low (l.take 2))) (hl4 : 4 ≤ l.length) (hy : ¬ Lo (num low ((l.drop 2).take 2))) :
    Calls Try.prog 31 #[.int .i64 kind, .bool low, .slice A l.length c] w fun en w' => en = .returned (gotV 10 2 0 0 0) ∧ Below w.heap.size w w' := by
  obtain ⟨A', hsl, hnum2⟩ := rnumTail low A c l w hC hc hb (by omega)
  have hyb := num_bd (fun x hx => hb x (List.mem_of_mem_drop hx)) low (.inl rfl : (2 : Int) = 2 ∨ (2 : Int) = 4) (show (2 : Int) ≤ ((l.drop 2).length : Int) by rw [List.length_drop]; omega)
  rw [show (2 : Int).toNat = 2 from rfl] at hyb
  have HN2 := Lib.hid hnum2
  clear hnum2
  change Hid (∀ W : World, Below w.heap.size w W → Calls Try.prog 30 #[.slice A' (l.drop 2).length (c - 2), .int .i64 2, .bool low] W fun e w' => e = .returned (.int .u32 (num low ((l.drop 2).take 2))) ∧ Drawn0 W w') at HN2
  have HNUM : Hid (∀ W, Below w.heap.size w W → Calls Try.prog 30 #[.slice A l.length c, .int .i64 2, .bool low] W fun e w' => e = .returned (.int .u32 (num low (l.take (2 : Int).toNat))) ∧ Drawn0 W w') := Lib.hid (fun W hW => rnumC low A c l 2 W (Kd.C_below hC hW) hc hb (shp_ok hk).1 (by omega))
  have hxb := num_bd hb low (shp_ok hk).1 (show 2 ≤ (l.length : Int) by omega)
  clear hC hc hb
  rw [show (2 : Int).toNat = 2 from rfl] at HNUM hxb
  generalize num low (l.take 2) = x at *
  generalize num low ((l.drop 2).take 2) = y at *
  generalize (l.drop 2).length = m2 at *
  have hy0 : 0 ≤ y := hyb.1
  have hy1 : y < 65536 := hyb.2.1 rfl
  clear hyb
  have HY := Lib.hid hy
  clear hy
  have hx0 : 0 ≤ x := hxb.1
  have hx2 : x < 65536 := hxb.2.1 rfl
  have hx1 : x ≤ 1114111 := by omega
  clear hxb
  have hl' : ¬ (l.length : Int) < 2 := by omega
  have HH := Lib.hid hh
  clear hh
  have hl4' : ¬ (l.length : Int) < 4 := by omega
  have HK := Lib.hid hk
  clear hk
  go_enter Try.func31, Try.ntmps31
  go_wp2_with fail
  refine (rsizeC _ HK.out).mono ?_
  rintro e w1 ⟨rfl, hd⟩
  have hb := hd.below
  have RK1 : Hid ((w1).heap[w.heap.size]? = some (.cells #[.int .i64 0, .int .i64 0, .int .i64 0, .int .i32 0, .int .i32 0, .int .i64 0, .int .i64 0, .int .u32 0, .int .i32 0] 32 (0, 0))) := Lib.hid (blk_below (heap_alloc_new _ _) hb)
  have HB1 : Hid (Below w.heap.size w (w1)) := Lib.hid (on (below_alloc (Below.refl _ _) _) hb)
  clear hb hd
  go_wp2_with fail
  refine (HNUM.out _ HB1.out).mono ?_
  rintro e w2 ⟨rfl, hd⟩
  have hb := hd.below
  have RK2 : Hid ((w2).heap[w.heap.size]? = some (.cells #[.int .i64 0, .int .i64 0, .int .i64 0, .int .i32 0, .int .i32 0, .int .i64 0, .int .i64 0, .int .u32 0, .int .i32 0] 32 (0, 0))) := Lib.hid (blk_below RK1.out hb)
  have HB2 : Hid (Below w.heap.size w (w2)) := Lib.hid (on HB1.out hb)
  clear hb hd RK1 HB1
  go_wp2_with fail
  refine (rscalarC x _).mono ?_
  rintro e w3 ⟨rfl, hd⟩
  rw [decide_eq_false (hi_not HH.out)]
  have hb := hd.below
  have RK3 : Hid ((w3).heap[w.heap.size]? = some (.cells #[.int .i64 0, .int .i64 0, .int .i64 0, .int .i32 0, .int .i32 0, .int .i64 0, .int .i64 0, .int .u32 0, .int .i32 0] 32 (0, 0))) := Lib.hid (blk_below RK2.out hb)
  have HB3 : Hid (Below w.heap.size w (w3)) := Lib.hid (on HB2.out hb)
  clear hb hd RK2 HB2
  go_wp2_with fail
  refine (rhighC x _).mono ?_
  rintro e w4 ⟨rfl, hd⟩
  rw [decide_eq_true HH.out]
  have hb := hd.below
  have RK4 : Hid ((w4).heap[w.heap.size]? = some (.cells #[.int .i64 0, .int .i64 0, .int .i64 0, .int .i32 0, .int .i32 0, .int .i64 0, .int .i64 0, .int .u32 0, .int .i32 0] 32 (0, 0))) := Lib.hid (blk_below RK3.out hb)
  have HB4 : Hid (Below w.heap.size w (w4)) := Lib.hid (on HB3.out hb)
  clear hb hd RK3 HB3
  go_wp2_with fail
  refine (HN2.out _ HB4.out).mono ?_
  rintro e w5 ⟨rfl, hd⟩
  have hb := hd.below
  have RK5 : Hid ((w5).heap[w.heap.size]? = some (.cells #[.int .i64 0, .int .i64 0, .int .i64 0, .int .i32 0, .int .i32 0, .int .i64 0, .int .i64 0, .int .u32 0, .int .i32 0] 32 (0, 0))) := Lib.hid (blk_below RK4.out hb)
  have HB5 : Hid (Below w.heap.size w (w5)) := Lib.hid (on HB4.out hb)
  clear hb hd RK4 HB4
  go_wp2_with fail
  refine (rjoinC_not _ HH.out HY.out).mono ?_
  rintro e w6 ⟨rfl, hd⟩
  have hb := hd.below
  have RK6 : Hid ((w6).heap[w.heap.size]? = some (.cells #[.int .i64 0, .int .i64 0, .int .i64 0, .int .i32 0, .int .i32 0, .int .i64 0, .int .i64 0, .int .u32 0, .int .i32 0] 32 (0, 0))) := Lib.hid (blk_below RK5.out hb)
  have HB6 : Hid (Below w.heap.size w (w6)) := Lib.hid (on HB5.out hb)
  clear hb hd RK5 HB5
  have hz : w.heap.size < w6.heap.size := blk_lt RK6.out
  have r0 := blk_cell RK6.out 0
  have r1 := blk_cell RK6.out 1
  have r2 := blk_cell RK6.out 2
  have r3 := blk_cell RK6.out 3
  have r4 := blk_cell RK6.out 4
  have r5 := blk_cell RK6.out 5
  have r6 := blk_cell RK6.out 6
  have r7 := blk_cell RK6.out 7
  have r8 := blk_cell RK6.out 8
  have q0 := blk_frozen RK6.out 0
  have q1 := blk_frozen RK6.out 1
  have q2 := blk_frozen RK6.out 2
  have q3 := blk_frozen RK6.out 3
  have q4 := blk_frozen RK6.out 4
  have q5 := blk_frozen RK6.out 5
  have q6 := blk_frozen RK6.out 6
  have q7 := blk_frozen RK6.out 7
  have q8 := blk_frozen RK6.out 8
  go_wp2_with fail
  refine bodyPost_ret (results_cell_row rfl _ _ w.heap.size 32 _ (0, 0) _ rfl (put9 RK6.out _ _ _ _ _ _ _ _ _) Try.underlying32 rfl (by kernel_rfl)) rfl ?_
  exact ⟨rfl, below9 HB6.out (Nat.le_refl _) _ _ _ _ _ _ _ _ _⟩
set_option maxHeartbeats 2000000 in
set_option maxRecDepth 100000 in
theorem rplain_pair (kind mode : Int) (pairs marks low : Bool) (A : Option Addr) (c : Nat) (l : List Int) (w : World) (hk : shp kind mode = some (2, pairs, marks, low)) (hC : Kd.C (Kd.int .u8) w A l.length l) (hc : l.length ≤ c) (hb : ∀ x ∈ l, Byte x) (h9 : (kind == 9) = false) (h10 : (kind == 10) = false) (hl : 2 ≤ l.length) (hh : Hi (num low (l.take 2))) (hl4 : 4 ≤ l.length) (hy : Lo (num low ((l.drop 2).take 2))) :
    Calls Try.prog 31 #[.int .i64 kind, .bool low, .slice A l.length c] w fun en w' => en = .returned (gotV 0 4 1 (65536 + (num low (l.take 2) - 55296) * 1024 + (num low ((l.drop 2).take 2) - 56320)) 0) ∧ Below w.heap.size w w' := by
  obtain ⟨A', hsl, hnum2⟩ := rnumTail low A c l w hC hc hb (by omega)
  have hyb := num_bd (fun x hx => hb x (List.mem_of_mem_drop hx)) low (.inl rfl : (2 : Int) = 2 ∨ (2 : Int) = 4) (show (2 : Int) ≤ ((l.drop 2).length : Int) by rw [List.length_drop]; omega)
  rw [show (2 : Int).toNat = 2 from rfl] at hyb
  have HN2 := Lib.hid hnum2
  clear hnum2
  change Hid (∀ W : World, Below w.heap.size w W → Calls Try.prog 30 #[.slice A' (l.drop 2).length (c - 2), .int .i64 2, .bool low] W fun e w' => e = .returned (.int .u32 (num low ((l.drop 2).take 2))) ∧ Drawn0 W w') at HN2
  have HNUM : Hid (∀ W, Below w.heap.size w W → Calls Try.prog 30 #[.slice A l.length c, .int .i64 2, .bool low] W fun e w' => e = .returned (.int .u32 (num low (l.take (2 : Int).toNat))) ∧ Drawn0 W w') := Lib.hid (fun W hW => rnumC low A c l 2 W (Kd.C_below hC hW) hc hb (shp_ok hk).1 (by omega))
  have hxb := num_bd hb low (shp_ok hk).1 (show 2 ≤ (l.length : Int) by omega)
  clear hC hc hb
  rw [show (2 : Int).toNat = 2 from rfl] at HNUM hxb
  generalize num low (l.take 2) = x at *
  generalize num low ((l.drop 2).take 2) = y at *
  generalize (l.drop 2).length = m2 at *
  have hy0 : 0 ≤ y := hyb.1
  have hy1 : y < 65536 := hyb.2.1 rfl
  clear hyb
  have HY := Lib.hid hy
  clear hy
  have hx0 : 0 ≤ x := hxb.1
  have hx2 : x < 65536 := hxb.2.1 rfl
  have hx1 : x ≤ 1114111 := by omega
  clear hxb
  have hl' : ¬ (l.length : Int) < 2 := by omega
  have HH := Lib.hid hh
  clear hh
  have hl4' : ¬ (l.length : Int) < 4 := by omega
  have HK := Lib.hid hk
  clear hk
  go_enter Try.func31, Try.ntmps31
  go_wp2_with fail
  refine (rsizeC _ HK.out).mono ?_
  rintro e w1 ⟨rfl, hd⟩
  have hb := hd.below
  have RK1 : Hid ((w1).heap[w.heap.size]? = some (.cells #[.int .i64 0, .int .i64 0, .int .i64 0, .int .i32 0, .int .i32 0, .int .i64 0, .int .i64 0, .int .u32 0, .int .i32 0] 32 (0, 0))) := Lib.hid (blk_below (heap_alloc_new _ _) hb)
  have HB1 : Hid (Below w.heap.size w (w1)) := Lib.hid (on (below_alloc (Below.refl _ _) _) hb)
  clear hb hd
  go_wp2_with fail
  refine (HNUM.out _ HB1.out).mono ?_
  rintro e w2 ⟨rfl, hd⟩
  have hb := hd.below
  have RK2 : Hid ((w2).heap[w.heap.size]? = some (.cells #[.int .i64 0, .int .i64 0, .int .i64 0, .int .i32 0, .int .i32 0, .int .i64 0, .int .i64 0, .int .u32 0, .int .i32 0] 32 (0, 0))) := Lib.hid (blk_below RK1.out hb)
  have HB2 : Hid (Below w.heap.size w (w2)) := Lib.hid (on HB1.out hb)
  clear hb hd RK1 HB1
  go_wp2_with fail
  refine (rscalarC x _).mono ?_
  rintro e w3 ⟨rfl, hd⟩
  rw [decide_eq_false (hi_not HH.out)]
  have hb := hd.below
  have RK3 : Hid ((w3).heap[w.heap.size]? = some (.cells #[.int .i64 0, .int .i64 0, .int .i64 0, .int .i32 0, .int .i32 0, .int .i64 0, .int .i64 0, .int .u32 0, .int .i32 0] 32 (0, 0))) := Lib.hid (blk_below RK2.out hb)
  have HB3 : Hid (Below w.heap.size w (w3)) := Lib.hid (on HB2.out hb)
  clear hb hd RK2 HB2
  go_wp2_with fail
  refine (rhighC x _).mono ?_
  rintro e w4 ⟨rfl, hd⟩
  rw [decide_eq_true HH.out]
  have hb := hd.below
  have RK4 : Hid ((w4).heap[w.heap.size]? = some (.cells #[.int .i64 0, .int .i64 0, .int .i64 0, .int .i32 0, .int .i32 0, .int .i64 0, .int .i64 0, .int .u32 0, .int .i32 0] 32 (0, 0))) := Lib.hid (blk_below RK3.out hb)
  have HB4 : Hid (Below w.heap.size w (w4)) := Lib.hid (on HB3.out hb)
  clear hb hd RK3 HB3
  go_wp2_with fail
  refine (HN2.out _ HB4.out).mono ?_
  rintro e w5 ⟨rfl, hd⟩
  have hb := hd.below
  have RK5 : Hid ((w5).heap[w.heap.size]? = some (.cells #[.int .i64 0, .int .i64 0, .int .i64 0, .int .i32 0, .int .i32 0, .int .i64 0, .int .i64 0, .int .u32 0, .int .i32 0] 32 (0, 0))) := Lib.hid (blk_below RK4.out hb)
  have HB5 : Hid (Below w.heap.size w (w5)) := Lib.hid (on HB4.out hb)
  clear hb hd RK4 HB4
  go_wp2_with fail
  refine (rjoinC _ HH.out HY.out).mono ?_
  rintro e w6 ⟨rfl, hd⟩
  have hb := hd.below
  have RK6 : Hid ((w6).heap[w.heap.size]? = some (.cells #[.int .i64 0, .int .i64 0, .int .i64 0, .int .i32 0, .int .i32 0, .int .i64 0, .int .i64 0, .int .u32 0, .int .i32 0] 32 (0, 0))) := Lib.hid (blk_below RK5.out hb)
  have HB6 : Hid (Below w.heap.size w (w6)) := Lib.hid (on HB5.out hb)
  clear hb hd RK5 HB5
  have hz : w.heap.size < w6.heap.size := blk_lt RK6.out
  have r0 := blk_cell RK6.out 0
  have r1 := blk_cell RK6.out 1
  have r2 := blk_cell RK6.out 2
  have r3 := blk_cell RK6.out 3
  have r4 := blk_cell RK6.out 4
  have r5 := blk_cell RK6.out 5
  have r6 := blk_cell RK6.out 6
  have r7 := blk_cell RK6.out 7
  have r8 := blk_cell RK6.out 8
  have q0 := blk_frozen RK6.out 0
  have q1 := blk_frozen RK6.out 1
  have q2 := blk_frozen RK6.out 2
  have q3 := blk_frozen RK6.out 3
  have q4 := blk_frozen RK6.out 4
  have q5 := blk_frozen RK6.out 5
  have q6 := blk_frozen RK6.out 6
  have q7 := blk_frozen RK6.out 7
  have q8 := blk_frozen RK6.out 8
  go_wp2_with fail
  refine bodyPost_ret (results_cell_row rfl _ _ w.heap.size 32 _ (0, 0) _ rfl (put9 RK6.out _ _ _ _ _ _ _ _ _) Try.underlying32 rfl (by kernel_rfl)) rfl ?_
  exact ⟨rfl, below9 HB6.out (Nat.le_refl _) _ _ _ _ _ _ _ _ _⟩
theorem rplainC {kind mode n e k s u : Int} {pairs marks low : Bool} {A : Option Addr} {c : Nat} {l : List Int} (w : World) (hk : shp kind mode = some (n, pairs, marks, low)) (hC : Kd.C (Kd.int .u8) w A l.length l) (hc : l.length ≤ c) (hb : ∀ x ∈ l, Byte x) (h : GP n pairs low l e k s u) :
    Calls Try.prog 31 #[.int .i64 kind, .bool low, .slice A l.length c] w fun en w' => en = .returned (gotV e k s u 0) ∧ Below w.heap.size w w' := by
  have hpk : pairs = true → (kind == 9) = false ∧ (kind == 10) = false := by
    intro hp
    rcases kinds hk with ⟨rfl, _, h3, _⟩ | ⟨rfl, _, h3, _⟩ | ⟨rfl, _, h3, _⟩ | ⟨rfl, _, h3, _⟩ | ⟨rfl, _, h3, _⟩ | ⟨rfl, _, h3, _⟩ | ⟨rfl, _, h3, _⟩ | ⟨rfl, _, h3, _⟩ <;> first | exact ⟨rfl, rfl⟩ | (rw [h3] at hp; cases hp)
  cases h with
  | short h => exact rplain_short kind mode n pairs marks low A c l w hk hC hc hb h
  | sc h hs => exact rplain_sc kind mode n pairs marks low A c l w hk hC hc hb h hs
  | ill h hs ho =>
    rcases (shp_ok hk).1 with rfl | rfl
    · by_cases hp : pairs = true
      · have hh : ¬ Hi (num low (l.take (2 : Int).toNat)) := by
          rcases ho with ho | ho
          · rw [ho] at hp; cases hp
          · exact ho
        exact rplain_lone kind mode pairs marks low A c l w hk hC hc hb (by omega) hs (hpk hp).1 (hpk hp).2 hh
      · rcases kinds hk with ⟨_, _, h3, _⟩ | ⟨_, _, h3, _⟩ | ⟨_, _, h3, _⟩ | ⟨_, h2, _⟩ | ⟨_, h2, _⟩ | ⟨_, h2, _⟩ | ⟨h9, _⟩ | ⟨h10, _⟩
        · exact absurd h3 hp
        · exact absurd h3 hp
        · exact absurd h3 hp
        · omega
        · omega
        · omega
        · exact rplain_no9 kind mode pairs marks low A c l w hk hC hc hb (by omega) hs h9
        · exact rplain_no10 kind mode pairs marks low A c l w hk hC hc hb (by omega) hs h10
    · by_cases hx : num low (l.take 4) ≤ 1114111
      · exact rplain_no4 kind mode pairs marks low A c l w hk hC hc hb (by omega) hs hx
      · exact rplain_big kind mode pairs marks low A c l w hk hC hc hb (by omega) (by omega)
  | short2 hn hl hp hh h4 =>
    subst hn
    exact rplain_few kind mode pairs marks low A c l w hk hC hc hb (hpk hp).1 (hpk hp).2 (by omega) hh (by omega)
  | ill2 hn hp hh h4 hy =>
    subst hn
    exact rplain_torn kind mode pairs marks low A c l w hk hC hc hb (hpk hp).1 (hpk hp).2 (by omega) hh (by omega) hy
  | pair hn hp hh h4 hy =>
    subst hn
    exact rplain_pair kind mode pairs marks low A c l w hk hC hc hb (hpk hp).1 (hpk hp).2 (by omega) hh (by omega) hy
end Go.Proofs.Ytflmpdfcbdfabaa.Wd
