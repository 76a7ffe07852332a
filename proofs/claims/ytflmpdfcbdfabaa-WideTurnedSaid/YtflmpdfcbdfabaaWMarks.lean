/- WideMarks, walked: a mark says the order of what is behind it. No condition. -/
import Derived.Test.YtflmpdfcbdfabaaWWorks
import Derived.Test.YtflmpdfcbdfabaaWGets
import Derived.Lib.AppendZerosOnto
namespace Go.Proofs.Ytflmpdfcbdfabaa.Wd
open Go.RowKit Go.Proofs.YtflmpdfcbdfabaaW.PrintWords Go.Proofs.YtflmpdfcbdfabaaW.PrintLast Go.Proofs.YtflmpdfcbdfabaaW.PrintMore
set_option linter.unusedVariables false
theorem same_got {kind mode kind' n : Int} {pairs marks low : Bool} (l : List Int) (h : shp kind mode = some (n, pairs, marks, low)) (h' : shp kind' 0 = some (n, pairs, false, low)) (hm : mode ≠ 0) (hf : Fit marks mode 0 0 0) :
    ∃ e k s u m m', GW kind mode 0 0 0 l e k s u m ∧ GW kind' 0 0 0 0 l e k s u m' := by
  obtain ⟨e, k, s, u, hg⟩ := gp_ex n pairs low l (shp_ok h).2
  by_cases he : e = 1
  · subst he
    exact ⟨1, k, s, u, 0, 0, .plainMore n pairs marks low k s u h hf (fun hx => hm hx.2) hg, .plainMore n pairs false low k s u h' ⟨rfl, rfl, rfl, .inl rfl⟩ (fun hx => by cases hx.1) hg⟩
  · exact ⟨e, k, s, u, mode, 0, .plain n pairs marks low e k s u h hf (fun hx => hm hx.2) hg he, .plain n pairs false low e k s u h' ⟨rfl, rfl, rfl, .inl rfl⟩ (fun hx => by cases hx.1) hg he⟩
theorem got_at {kind mode bits acc held e k s u m : Int} {l : List Int} (hb : ∀ x ∈ l, Byte x) (h : GW kind mode bits acc held l e k s u m) : Hid (∀ W A c, Kd.C (Kd.int .u8) W A l.length l → l.length ≤ c → Calls Try.prog 11 #[.int .i64 kind, .agg #[.int .i64 mode, .int .i64 bits, .int .u32 acc, .int .i32 held], .slice A l.length c] W fun en w' => en = .returned (.agg #[.int .i64 e, .int .i64 k, .int .i64 s, .int .i32 u, .int .i32 0, .int .i64 m, .int .i64 0, .int .u32 0, .int .i32 0]) ∧ Below W.heap.size W w') :=
  Lib.hid (fun W A c hC hc => getC W hC hc hb h)
theorem lit_at (W : World) (n : Nat) (l : List Int) (h : W.heap.size = n) (hl : l.length ≤ 1000) : ReadsInt (W.alloc (.cells (nums .u8 l).toArray 5)) .u8 (some ⟨n, 0, none⟩) l.length l := by
  subst h
  exact lit_reads W l hl
theorem made0 (W : World) : (Instr.makeSlice 30 (.int .i64 0) (.int .i64 0)).run Try.prog W = .ok (.slice (some ⟨W.heap.size, 0, none⟩) 0 0) (W.alloc (.cells #[] 5)) := by
  have h := print_make 30 5 .u8 1 Try.underlying30 info5 (by omega) 0 (by omega) W
  rw [show madeCells #[Value.int .u8 0] 0 = #[] by kernel_rfl] at h
  exact h
theorem made2 (W : World) : (Instr.makeSlice 30 (.int .i64 2) (.int .i64 2)).run Try.prog W = .ok (.slice (some ⟨W.heap.size, 0, none⟩) 2 2) (W.alloc (.cells #[.int .u8 0, .int .u8 0] 5)) := by
  have h := print_make 30 5 .u8 1 Try.underlying30 info5 (by omega) 2 (by omega) W
  rw [show madeCells #[Value.int .u8 0] 2 = #[.int .u8 0, .int .u8 0] by kernel_rfl] at h
  exact h
theorem zeros2 {i5 : TypeInfo} (hi : Try.prog.info? 5 = some i5) (hz0 : i5.zero = some (.int .u8 0)) (hz1 : i5.size = 1) (hz2 : i5.bytes = 1) {W : World} {g : Nat} (hW : W.heap[g]? = some (.cells #[.int .u8 255, .int .u8 254] 5 (0, 0))) :
    ∃ cap w3, (Builtin.append_ #[30, 3] 30 #[.slice (some ⟨g, 0, none⟩) 2 2, .int .i64 2]).run Try.prog W = .ok (.slice (some ⟨W.heap.size, 0, none⟩) 4 cap) w3 ∧ Kd.C (Kd.int .u8) w3 (some ⟨W.heap.size, 0, none⟩) [255, 254, 0, 0].length [255, 254, 0, 0] ∧ 4 ≤ cap ∧ Below W.heap.size W w3 := by
  have c0 := blk_cell hW 0
  have c1 := blk_cell hW 1
  have h := Lib.run_append_grow_zeros (P := Try.prog) W 30 3 30 5 i5 (.int .u8 0) .i64 .i64 Try.underlying30 Try.underlying3 hi hz0 (some ⟨g, 0, none⟩) 2 2 [.int .u8 255, .int .u8 254] ?a 2 (by omega) (by omega) (by omega) (by omega) (by omega) ?b
  case a =>
    rw [hz1]
    refine run_firstCells_some (P := Try.prog) W.drew 1 2 ⟨g, 0, none⟩ 2 2 _ rfl ?_
    intro j v hj
    rw [add_plain]
    match j with
    | 0 => simp at hj; subst hj; exact c0
    | 1 => simp at hj; subst hj; exact c1
    | j + 2 => simp at hj
  case b => rw [hz2]; decide
  refine ⟨_, _, h, ?_, grownCap_ge W 4 2 5, below_alloc (below_drew (Below.refl _ _)) _⟩
  refine Kd.C_of_reads (d := (0 : Int)) ⟨rfl, by decide, fun _ => ⟨_, rfl, fun j hj => ?_⟩⟩
  rw [add_plain]
  have hn := blk_cell (heap_alloc_new W.drew (.cells ([Value.int .u8 255, .int .u8 254].toArray ++ Builtin.zeroCells (Value.int .u8 0).cells 2 ++ Builtin.zeroCells (Value.int .u8 0).cells (grownCap W (2 + 2) 2 5 - (2 + 2))) 5)) j
  refine hn.trans ?_
  rw [show ([Value.int .u8 255, .int .u8 254].toArray ++ Builtin.zeroCells (Value.int .u8 0).cells 2 : Array Value) = #[.int .u8 255, .int .u8 254, .int .u8 0, .int .u8 0] by kernel_rfl]
  have hj4 : j < 4 := hj
  rw [Array.getElem?_append_left (show j < 4 from hj4)]
  match j, hj4 with
  | 0, _ => rfl
  | 1, _ => rfl
  | 2, _ => rfl
  | 3, _ => rfl
set_option maxHeartbeats 4000000 in
set_option maxRecDepth 100000 in
theorem marks_2 (A : Option Addr) (c : Nat) (l : List Int) (w : World) (hC : Kd.C (Kd.int .u8) w A l.length l) (hc : l.length ≤ c) (hb : ∀ x ∈ l, Byte x) (hlen : l.length ≤ 140737488351232) :
    Calls Try.prog 7 #[.bool false, .slice A l.length c] w fun e w' => e = .returned (.bool true) ∧ Below w.heap.size w w' := by
  obtain ⟨e1, k1, s1, u1, m1, n1, hp, hq⟩ := same_got (kind := 5) (mode := 1) (kind' := 3) l (n := 2) (pairs := true) (marks := true) (low := false) rfl rfl (by decide) ⟨rfl, rfl, rfl, .inr ⟨rfl, .inl rfl⟩⟩
  obtain ⟨e2, k2, s2, u2, m2, n2, hu, hv⟩ := same_got (kind := 5) (mode := 2) (kind' := 4) l (n := 2) (pairs := true) (marks := true) (low := true) rfl rfl (by decide) ⟨rfl, rfl, rfl, .inr ⟨rfl, .inr rfl⟩⟩
  have Hp := got_at hb hp
  have Hq := got_at hb hq
  have Hu := got_at hb hu
  have Hv := got_at hb hv
  have hXb : ∀ x ∈ [254, 255] ++ l, Byte x := by
    intro x hx
    rcases List.mem_append.1 hx with hx | hx
    · unfold Byte; simp at hx; omega
    · exact hb x hx
  have hYb : ∀ x ∈ [255, 254] ++ l, Byte x := by
    intro x hx
    rcases List.mem_append.1 hx with hx | hx
    · unfold Byte; simp at hx; omega
    · exact hb x hx
  have HX := got_at hXb (.markB (kind := 5) (mode := 0) (bits := 0) (acc := 0) (held := 0) 2 true false rfl ⟨rfl, rfl, rfl, .inl rfl⟩ rfl (by simp; omega) rfl)
  have HY := got_at hYb (.markL (kind := 5) (mode := 0) (bits := 0) (acc := 0) (held := 0) 2 true false rfl ⟨rfl, rfl, rfl, .inl rfl⟩ rfl (by simp; omega) (show ¬ (num false [255, 254] = 65279) by decide) rfl)
  have HC := Lib.hid hC
  have Hc := Lib.hid hc
  clear hC hc hb hXb hYb hp hq hu hv
  have hmk := made0
  go_enter Try.func7, Try.ntmps7
  go_wp2_with fail
  refine (worksC _).mono ?_
  rintro e w1 ⟨rfl, hb1⟩
  have HB1 : Hid (Below w.heap.size w w1) := hb1
  clear hb1
  go_upto_region 7 with (at_builtin; refine print_append_row (w0 := w1) w1.heap.size rfl (.tmp 22) (.tmp 23) 30 5 .u8 1 rfl Try.underlying30 info5 (by omega) (.slice (some ⟨w1.heap.size, 0, none⟩) 0 0) ([] : List Int) [254, 255] (some ⟨w1.heap.size + 1, 0, none⟩) 2 2 rfl rfl ((own_lit w1 w1.heap.size 5 .u8 ([] : List Int) (Nat.le_refl _) (by simp)).alloc _) (lit_at (w1.alloc (.cells #[] 5)) (w1.heap.size + 1) [254, 255] (by simp) (by simp)) (below_alloc (below_alloc (Below.refl _ _) _) _) (by simp; omega) (by simp) ?_; intro v2 w2 hown2 hb2 hg2 hat2; clear hg2 hat2; have HO2 : Hid (w2.ownsRow w1.heap.size 5 1 v2 [254, 255].length (nums .u8 [254, 255])) := hown2; have HB2 := Lib.hid hb2; clear hown2 hb2)
  obtain ⟨A2, c2, rfl, hC2, hc2⟩ := own_row HO2.out
  have HC2 := Lib.hid hC2
  clear hC2 hc2 HO2
  go_upto_region 8 with fail
  have HC3 : Hid (Kd.C (Kd.int .u8) (w2.alloc (.cells #[.int .u8 255, .int .u8 254] 5)) (some ⟨w2.heap.size, 0, none⟩) [255, 254].length [255, 254]) := Lib.hid (litC w2 5 [255, 254] (by simp))
  have HB3 : Hid (Below w2.heap.size w2 (w2.alloc (.cells #[.int .u8 255, .int .u8 254] 5))) := Lib.hid (below_alloc (Below.refl _ _) _)
  generalize (w2.alloc (.cells #[.int .u8 255, .int .u8 254] 5)) = w3 at *
  generalize (some ⟨w2.heap.size, 0, none⟩ : Option Addr) = A3 at *
  have HCx := Lib.hid (Kd.C_below HC2.out HB3.out)
  have HCy := HC3
  have HB : Hid (Below w.heap.size w w3) := Lib.hid (on (on HB1.out HB2.out) HB3.out)
  have HCl := Lib.hid (Kd.C_below HC.out HB.out)
  replace HC := HCl
  clear HCl HC2 HC3 HB1 HB2 HB3
  have HCk := HC
  go_wp2_with (first | (at_builtin; refine print_append_row (w0 := w3) w3.heap.size rfl (.tmp 31) (.tmp 32) 30 5 .u8 1 rfl Try.underlying30 info5 (by omega) (.slice (some ⟨w3.heap.size, 0, none⟩) 0 0) [] [254, 255] A2 2 c2 rfl rfl (own_lit w3 w3.heap.size 5 .u8 [] (Nat.le_refl _) (by simp)) (Kd.reads_of_C (enc := Value.int .u8) (d := (0 : Int)) (h1 := fun _ => rfl) (Kd.C_below HCx.out (below_alloc (Below.refl _ _) _))) (below_alloc (Below.refl _ _) _) (by simp) (by simp) ?_; intro v4 w4 hown4 hb4 hg4 hat4; clear hg4 hat4; have HO4 : Hid (w4.ownsRow w3.heap.size 5 1 v4 [254, 255].length (nums .u8 [254, 255])) := hown4; have HB4 := Lib.hid hb4; replace HC := Lib.hid (Kd.C_below HC.out hb4); have hz4 : w3.heap.size ≤ w4.heap.size := hb4.size; clear hown4 hb4) | (at_builtin; refine print_append_row (w0 := w3) w3.heap.size rfl (.tmp 33) (.tmp 34) 30 5 .u8 1 rfl Try.underlying30 info5 (by omega) v4 [254, 255] l A l.length c rfl rfl HO4.out (Kd.reads_of_C (enc := Value.int .u8) (d := (0 : Int)) (h1 := fun _ => rfl) HC.out) HB4.out hz4 (by simp; omega) ?_; intro v5 w5 hown5 hb5 hg5 hat5; clear hg5 hat5; have HO5 : Hid (w5.ownsRow w3.heap.size 5 1 v5 ([254, 255] ++ l).length (nums .u8 ([254, 255] ++ l))) := hown5; have HB5 := Lib.hid hb5; clear hown5 hb5))
  obtain ⟨A5, c5, rfl, hC5, hc5⟩ := own_row HO5.out
  refine (HX.out _ _ _ hC5 hc5).mono ?_
  rintro e w6 ⟨rfl, hb6⟩
  have hb := below_on HB5.out HB5.out.size hb6
  clear HC HO4 HO5 HB4 HB5 hC5 hc5 hb6 hz4
  have HC := HCk
  clear HCk
  replace HB := Lib.hid (on HB.out hb)
  replace HC := Lib.hid (Kd.C_below HC.out hb)
  replace HCx := Lib.hid (Kd.C_below HCx.out hb)
  replace HCy := Lib.hid (Kd.C_below HCy.out hb)
  clear hb
  go_upto_region 9 with fail
  have hb := below_alloc (Below.refl w6.heap.size w6) (.cells #[.int .i64 0, .int .i64 2, .int .i64 0, .int .i32 0, .int .i32 0, .int .i64 1, .int .i64 0, .int .u32 0, .int .i32 0] 32)
  replace HB := Lib.hid (on HB.out hb)
  replace HC := Lib.hid (Kd.C_below HC.out hb)
  replace HCx := Lib.hid (Kd.C_below HCx.out hb)
  replace HCy := Lib.hid (Kd.C_below HCy.out hb)
  have XK : Hid ((w6.alloc (.cells #[.int .i64 0, .int .i64 2, .int .i64 0, .int .i32 0, .int .i32 0, .int .i64 1, .int .i64 0, .int .u32 0, .int .i32 0] 32)).heap[w6.heap.size]? = some (.cells #[.int .i64 0, .int .i64 2, .int .i64 0, .int .i32 0, .int .i32 0, .int .i64 1, .int .i64 0, .int .u32 0, .int .i32 0] 32 (0, 0))) := Lib.hid (heap_alloc_new _ _)
  have hzx : w6.heap.size < (w6.alloc (.cells #[.int .i64 0, .int .i64 2, .int .i64 0, .int .i32 0, .int .i32 0, .int .i64 1, .int .i64 0, .int .u32 0, .int .i32 0] 32)).heap.size := blk_lt XK.out
  generalize w6.alloc (.cells #[.int .i64 0, .int .i64 2, .int .i64 0, .int .i32 0, .int .i32 0, .int .i64 1, .int .i64 0, .int .u32 0, .int .i32 0] 32) = w7 at *
  generalize w6.heap.size = gx at *
  clear hb
  clear hzx
  have HCk := HC
  go_wp2_with (first | (at_builtin; refine print_append_row (w0 := w7) w7.heap.size rfl (.tmp 39) (.tmp 40) 30 5 .u8 1 rfl Try.underlying30 info5 (by omega) (.slice (some ⟨w7.heap.size, 0, none⟩) 0 0) [] [255, 254] A3 2 2 rfl rfl (own_lit w7 w7.heap.size 5 .u8 [] (Nat.le_refl _) (by simp)) (Kd.reads_of_C (enc := Value.int .u8) (d := (0 : Int)) (h1 := fun _ => rfl) (Kd.C_below HCy.out (below_alloc (Below.refl _ _) _))) (below_alloc (Below.refl _ _) _) (by simp) (by simp) ?_; intro v4 w4 hown4 hb4 hg4 hat4; clear hg4 hat4; have HO4 : Hid (w4.ownsRow w7.heap.size 5 1 v4 [255, 254].length (nums .u8 [255, 254])) := hown4; have HB4 := Lib.hid hb4; replace HC := Lib.hid (Kd.C_below HC.out hb4); have hz4 : w7.heap.size ≤ w4.heap.size := hb4.size; clear hown4 hb4) | (at_builtin; refine print_append_row (w0 := w7) w7.heap.size rfl (.tmp 41) (.tmp 42) 30 5 .u8 1 rfl Try.underlying30 info5 (by omega) v4 [255, 254] l A l.length c rfl rfl HO4.out (Kd.reads_of_C (enc := Value.int .u8) (d := (0 : Int)) (h1 := fun _ => rfl) HC.out) HB4.out hz4 (by simp; omega) ?_; intro v5 w5 hown5 hb5 hg5 hat5; clear hg5 hat5; have HO5 : Hid (w5.ownsRow w7.heap.size 5 1 v5 ([255, 254] ++ l).length (nums .u8 ([255, 254] ++ l))) := hown5; have HB5 := Lib.hid hb5; clear hown5 hb5))
  obtain ⟨A5, c5, rfl, hC5, hc5⟩ := own_row HO5.out
  refine (HY.out _ _ _ hC5 hc5).mono ?_
  rintro e w6 ⟨rfl, hb6⟩
  have hb := below_on HB5.out HB5.out.size hb6
  clear HC HO4 HO5 HB4 HB5 hC5 hc5 hb6 hz4
  have HC := HCk
  clear HCk
  replace HB := Lib.hid (on HB.out hb)
  replace HC := Lib.hid (Kd.C_below HC.out hb)
  replace HCx := Lib.hid (Kd.C_below HCx.out hb)
  replace HCy := Lib.hid (Kd.C_below HCy.out hb)
  replace XK := Lib.hid (blk_below XK.out hb)
  clear hb
  go_upto_region 10 with fail
  have hb := below_alloc (Below.refl w6.heap.size w6) (.cells #[.int .i64 0, .int .i64 2, .int .i64 0, .int .i32 0, .int .i32 0, .int .i64 2, .int .i64 0, .int .u32 0, .int .i32 0] 32)
  replace HB := Lib.hid (on HB.out hb)
  replace HC := Lib.hid (Kd.C_below HC.out hb)
  replace HCx := Lib.hid (Kd.C_below HCx.out hb)
  replace HCy := Lib.hid (Kd.C_below HCy.out hb)
  replace XK := Lib.hid (blk_below XK.out hb)
  have YK : Hid ((w6.alloc (.cells #[.int .i64 0, .int .i64 2, .int .i64 0, .int .i32 0, .int .i32 0, .int .i64 2, .int .i64 0, .int .u32 0, .int .i32 0] 32)).heap[w6.heap.size]? = some (.cells #[.int .i64 0, .int .i64 2, .int .i64 0, .int .i32 0, .int .i32 0, .int .i64 2, .int .i64 0, .int .u32 0, .int .i32 0] 32 (0, 0))) := Lib.hid (heap_alloc_new _ _)
  have hzy : w6.heap.size < (w6.alloc (.cells #[.int .i64 0, .int .i64 2, .int .i64 0, .int .i32 0, .int .i32 0, .int .i64 2, .int .i64 0, .int .u32 0, .int .i32 0] 32)).heap.size := blk_lt YK.out
  generalize w6.alloc (.cells #[.int .i64 0, .int .i64 2, .int .i64 0, .int .i32 0, .int .i32 0, .int .i64 2, .int .i64 0, .int .u32 0, .int .i32 0] 32) = w8 at *
  generalize w6.heap.size = gy at *
  clear hb
  have x0 := blk_cell XK.out 0
  have x1 := blk_cell XK.out 1
  have x2 := blk_cell XK.out 2
  have x3 := blk_cell XK.out 3
  have x4 := blk_cell XK.out 4
  have x5 := blk_cell XK.out 5
  have x6 := blk_cell XK.out 6
  have x7 := blk_cell XK.out 7
  have x8 := blk_cell XK.out 8
  have y0 := blk_cell YK.out 0
  have y1 := blk_cell YK.out 1
  have y2 := blk_cell YK.out 2
  have y3 := blk_cell YK.out 3
  have y4 := blk_cell YK.out 4
  have y5 := blk_cell YK.out 5
  have y6 := blk_cell YK.out 6
  have y7 := blk_cell YK.out 7
  have y8 := blk_cell YK.out 8
  go_upto_region 12 with fail
  go_wp2_with fail
  refine (Hp.out _ _ _ HC.out Hc.out).mono ?_
  rintro e wa ⟨rfl, hb⟩
  replace HB := Lib.hid (on HB.out hb)
  replace HC := Lib.hid (Kd.C_below HC.out hb)
  replace HCx := Lib.hid (Kd.C_below HCx.out hb)
  replace HCy := Lib.hid (Kd.C_below HCy.out hb)
  replace XK := Lib.hid (blk_below XK.out hb)
  replace YK := Lib.hid (blk_below YK.out hb)
  clear hb
  clear x0 x1 x2 x3 x4 x5 x6 x7 x8
  clear y0 y1 y2 y3 y4 y5 y6 y7 y8
  go_wp2_with fail
  refine (Hq.out _ _ _ HC.out Hc.out).mono ?_
  rintro e wb ⟨rfl, hb⟩
  replace HB := Lib.hid (on HB.out hb)
  replace HC := Lib.hid (Kd.C_below HC.out hb)
  replace HCx := Lib.hid (Kd.C_below HCx.out hb)
  replace HCy := Lib.hid (Kd.C_below HCy.out hb)
  replace XK := Lib.hid (blk_below XK.out hb)
  replace YK := Lib.hid (blk_below YK.out hb)
  clear hb
  go_upto_region 13 with fail
  have hb := below_alloc (below_alloc (Below.refl wb.heap.size wb) (.cells #[.int .i64 e1, .int .i64 k1, .int .i64 s1, .int .i32 u1, .int .i32 0, .int .i64 m1, .int .i64 0, .int .u32 0, .int .i32 0] 32)) (.cells #[.int .i64 e1, .int .i64 k1, .int .i64 s1, .int .i32 u1, .int .i32 0, .int .i64 n1, .int .i64 0, .int .u32 0, .int .i32 0] 32)
  replace HB := Lib.hid (on HB.out hb)
  replace HC := Lib.hid (Kd.C_below HC.out hb)
  replace HCx := Lib.hid (Kd.C_below HCx.out hb)
  replace HCy := Lib.hid (Kd.C_below HCy.out hb)
  replace XK := Lib.hid (blk_below XK.out hb)
  replace YK := Lib.hid (blk_below YK.out hb)
  have PK : Hid (((wb.alloc (.cells #[.int .i64 e1, .int .i64 k1, .int .i64 s1, .int .i32 u1, .int .i32 0, .int .i64 m1, .int .i64 0, .int .u32 0, .int .i32 0] 32)).alloc (.cells #[.int .i64 e1, .int .i64 k1, .int .i64 s1, .int .i32 u1, .int .i32 0, .int .i64 n1, .int .i64 0, .int .u32 0, .int .i32 0] 32)).heap[wb.heap.size]? = some (.cells #[.int .i64 e1, .int .i64 k1, .int .i64 s1, .int .i32 u1, .int .i32 0, .int .i64 m1, .int .i64 0, .int .u32 0, .int .i32 0] 32 (0, 0))) := Lib.hid (blk_alloc (heap_alloc_new _ _) _)
  have QK : Hid (((wb.alloc (.cells #[.int .i64 e1, .int .i64 k1, .int .i64 s1, .int .i32 u1, .int .i32 0, .int .i64 m1, .int .i64 0, .int .u32 0, .int .i32 0] 32)).alloc (.cells #[.int .i64 e1, .int .i64 k1, .int .i64 s1, .int .i32 u1, .int .i32 0, .int .i64 n1, .int .i64 0, .int .u32 0, .int .i32 0] 32)).heap[wb.heap.size + 1]? = some (.cells #[.int .i64 e1, .int .i64 k1, .int .i64 s1, .int .i32 u1, .int .i32 0, .int .i64 n1, .int .i64 0, .int .u32 0, .int .i32 0] 32 (0, 0))) := Lib.hid (blk_second _ _ _)
  generalize (wb.alloc (.cells #[.int .i64 e1, .int .i64 k1, .int .i64 s1, .int .i32 u1, .int .i32 0, .int .i64 m1, .int .i64 0, .int .u32 0, .int .i32 0] 32)).alloc (.cells #[.int .i64 e1, .int .i64 k1, .int .i64 s1, .int .i32 u1, .int .i32 0, .int .i64 n1, .int .i64 0, .int .u32 0, .int .i32 0] 32) = w13 at *
  generalize wb.heap.size = g13 at *
  clear hb
  have y0 := blk_cell YK.out 0
  have y1 := blk_cell YK.out 1
  have y2 := blk_cell YK.out 2
  have y3 := blk_cell YK.out 3
  have y4 := blk_cell YK.out 4
  have y5 := blk_cell YK.out 5
  have y6 := blk_cell YK.out 6
  have y7 := blk_cell YK.out 7
  have y8 := blk_cell YK.out 8
  go_wp2_with fail
  refine (Hu.out _ _ _ HC.out Hc.out).mono ?_
  rintro e wa ⟨rfl, hb⟩
  replace HB := Lib.hid (on HB.out hb)
  replace HC := Lib.hid (Kd.C_below HC.out hb)
  replace HCx := Lib.hid (Kd.C_below HCx.out hb)
  replace HCy := Lib.hid (Kd.C_below HCy.out hb)
  replace XK := Lib.hid (blk_below XK.out hb)
  replace YK := Lib.hid (blk_below YK.out hb)
  replace PK := Lib.hid (blk_below PK.out hb)
  replace QK := Lib.hid (blk_below QK.out hb)
  clear hb
  clear y0 y1 y2 y3 y4 y5 y6 y7 y8
  go_wp2_with fail
  refine (Hv.out _ _ _ HC.out Hc.out).mono ?_
  rintro e wb ⟨rfl, hb⟩
  replace HB := Lib.hid (on HB.out hb)
  replace HC := Lib.hid (Kd.C_below HC.out hb)
  replace HCx := Lib.hid (Kd.C_below HCx.out hb)
  replace HCy := Lib.hid (Kd.C_below HCy.out hb)
  replace XK := Lib.hid (blk_below XK.out hb)
  replace YK := Lib.hid (blk_below YK.out hb)
  replace PK := Lib.hid (blk_below PK.out hb)
  replace QK := Lib.hid (blk_below QK.out hb)
  clear hb
  go_upto_region 14 with fail
  have hb := below_alloc (below_alloc (Below.refl wb.heap.size wb) (.cells #[.int .i64 e2, .int .i64 k2, .int .i64 s2, .int .i32 u2, .int .i32 0, .int .i64 m2, .int .i64 0, .int .u32 0, .int .i32 0] 32)) (.cells #[.int .i64 e2, .int .i64 k2, .int .i64 s2, .int .i32 u2, .int .i32 0, .int .i64 n2, .int .i64 0, .int .u32 0, .int .i32 0] 32)
  replace HB := Lib.hid (on HB.out hb)
  replace HC := Lib.hid (Kd.C_below HC.out hb)
  replace HCx := Lib.hid (Kd.C_below HCx.out hb)
  replace HCy := Lib.hid (Kd.C_below HCy.out hb)
  replace XK := Lib.hid (blk_below XK.out hb)
  replace YK := Lib.hid (blk_below YK.out hb)
  replace PK := Lib.hid (blk_below PK.out hb)
  replace QK := Lib.hid (blk_below QK.out hb)
  have UK : Hid (((wb.alloc (.cells #[.int .i64 e2, .int .i64 k2, .int .i64 s2, .int .i32 u2, .int .i32 0, .int .i64 m2, .int .i64 0, .int .u32 0, .int .i32 0] 32)).alloc (.cells #[.int .i64 e2, .int .i64 k2, .int .i64 s2, .int .i32 u2, .int .i32 0, .int .i64 n2, .int .i64 0, .int .u32 0, .int .i32 0] 32)).heap[wb.heap.size]? = some (.cells #[.int .i64 e2, .int .i64 k2, .int .i64 s2, .int .i32 u2, .int .i32 0, .int .i64 m2, .int .i64 0, .int .u32 0, .int .i32 0] 32 (0, 0))) := Lib.hid (blk_alloc (heap_alloc_new _ _) _)
  have VK : Hid (((wb.alloc (.cells #[.int .i64 e2, .int .i64 k2, .int .i64 s2, .int .i32 u2, .int .i32 0, .int .i64 m2, .int .i64 0, .int .u32 0, .int .i32 0] 32)).alloc (.cells #[.int .i64 e2, .int .i64 k2, .int .i64 s2, .int .i32 u2, .int .i32 0, .int .i64 n2, .int .i64 0, .int .u32 0, .int .i32 0] 32)).heap[wb.heap.size + 1]? = some (.cells #[.int .i64 e2, .int .i64 k2, .int .i64 s2, .int .i32 u2, .int .i32 0, .int .i64 n2, .int .i64 0, .int .u32 0, .int .i32 0] 32 (0, 0))) := Lib.hid (blk_second _ _ _)
  generalize (wb.alloc (.cells #[.int .i64 e2, .int .i64 k2, .int .i64 s2, .int .i32 u2, .int .i32 0, .int .i64 m2, .int .i64 0, .int .u32 0, .int .i32 0] 32)).alloc (.cells #[.int .i64 e2, .int .i64 k2, .int .i64 s2, .int .i32 u2, .int .i32 0, .int .i64 n2, .int .i64 0, .int .u32 0, .int .i32 0] 32) = w14 at *
  generalize wb.heap.size = g14 at *
  clear hb
  have pc0 := blk_cell PK.out 0
  have pc1 := blk_cell PK.out 1
  have pc2 := blk_cell PK.out 2
  have pc3 := blk_cell PK.out 3
  have qc0 := blk_cell QK.out 0
  have qc1 := blk_cell QK.out 1
  have qc2 := blk_cell QK.out 2
  have qc3 := blk_cell QK.out 3
  have uc0 := blk_cell UK.out 0
  have uc1 := blk_cell UK.out 1
  have uc2 := blk_cell UK.out 2
  have uc3 := blk_cell UK.out 3
  have vc0 := blk_cell VK.out 0
  have vc1 := blk_cell VK.out 1
  have vc2 := blk_cell VK.out 2
  have vc3 := blk_cell VK.out 3
  go_wp2_with fail
  go_ret
  exact ⟨rfl, HB.out⟩
set_option maxHeartbeats 4000000 in
set_option maxRecDepth 100000 in
theorem marks_4 (A : Option Addr) (c : Nat) (l : List Int) (w : World) (hC : Kd.C (Kd.int .u8) w A l.length l) (hc : l.length ≤ c) (hb : ∀ x ∈ l, Byte x) (hlen : l.length ≤ 140737488351232) :
    Calls Try.prog 7 #[.bool true, .slice A l.length c] w fun e w' => e = .returned (.bool true) ∧ Below w.heap.size w w' := by
  obtain ⟨e1, k1, s1, u1, m1, n1, hp, hq⟩ := same_got (kind := 8) (mode := 1) (kind' := 6) l (n := 4) (pairs := false) (marks := true) (low := false) rfl rfl (by decide) ⟨rfl, rfl, rfl, .inr ⟨rfl, .inl rfl⟩⟩
  obtain ⟨e2, k2, s2, u2, m2, n2, hu, hv⟩ := same_got (kind := 8) (mode := 2) (kind' := 7) l (n := 4) (pairs := false) (marks := true) (low := true) rfl rfl (by decide) ⟨rfl, rfl, rfl, .inr ⟨rfl, .inr rfl⟩⟩
  have Hp := got_at hb hp
  have Hq := got_at hb hq
  have Hu := got_at hb hu
  have Hv := got_at hb hv
  have hXb : ∀ x ∈ [0, 0, 254, 255] ++ l, Byte x := by
    intro x hx
    rcases List.mem_append.1 hx with hx | hx
    · unfold Byte; simp at hx; omega
    · exact hb x hx
  have hYb : ∀ x ∈ [255, 254, 0, 0] ++ l, Byte x := by
    intro x hx
    rcases List.mem_append.1 hx with hx | hx
    · unfold Byte; simp at hx; omega
    · exact hb x hx
  have HX := got_at hXb (.markB (kind := 8) (mode := 0) (bits := 0) (acc := 0) (held := 0) 4 false false rfl ⟨rfl, rfl, rfl, .inl rfl⟩ rfl (by simp; omega) rfl)
  have HY := got_at hYb (.markL (kind := 8) (mode := 0) (bits := 0) (acc := 0) (held := 0) 4 false false rfl ⟨rfl, rfl, rfl, .inl rfl⟩ rfl (by simp; omega) (show ¬ (num false [255, 254, 0, 0] = 65279) by decide) rfl)
  have HC := Lib.hid hC
  have Hc := Lib.hid hc
  clear hC hc hb hXb hYb hp hq hu hv
  have hmk := made2
  go_enter Try.func7, Try.ntmps7
  go_wp2_with fail
  refine (worksC _).mono ?_
  rintro e w1 ⟨rfl, hb1⟩
  have HB1 : Hid (Below w.heap.size w w1) := hb1
  clear hb1
  go_upto_region 7 with (at_builtin; refine print_append_row (w0 := w1) w1.heap.size rfl (.tmp 22) (.tmp 23) 30 5 .u8 1 rfl Try.underlying30 info5 (by omega) (.slice (some ⟨w1.heap.size, 0, none⟩) 2 2) [0, 0] [254, 255] (some ⟨w1.heap.size + 1, 0, none⟩) 2 2 rfl rfl ((own_lit w1 w1.heap.size 5 .u8 [0, 0] (Nat.le_refl _) (by simp)).alloc _) (lit_at (w1.alloc (.cells #[.int .u8 0, .int .u8 0] 5)) (w1.heap.size + 1) [254, 255] (by simp) (by simp)) (below_alloc (below_alloc (Below.refl _ _) _) _) (by simp; omega) (by simp) ?_; intro v2 w2 hown2 hb2 hg2 hat2; clear hg2 hat2; have HO2 : Hid (w2.ownsRow w1.heap.size 5 1 v2 [0, 0, 254, 255].length (nums .u8 [0, 0, 254, 255])) := hown2; have HB2 := Lib.hid hb2; clear hown2 hb2)
  obtain ⟨A2, c2, rfl, hC2, hc2⟩ := own_row HO2.out
  have HC2 := Lib.hid hC2
  clear hC2 hc2 HO2
  obtain ⟨i5, hi5, hz5⟩ := Option.map_eq_some_iff.1 info5
  simp only [Prod.mk.injEq] at hz5
  have HZ : Hid (∀ W : World, W.heap[w2.heap.size]? = some (.cells #[.int .u8 255, .int .u8 254] 5 (0, 0)) → ∃ cap w3, (Builtin.append_ #[30, 3] 30 #[.slice (some ⟨w2.heap.size, 0, none⟩) 2 2, .int .i64 2]).run Try.prog W = .ok (.slice (some ⟨W.heap.size, 0, none⟩) 4 cap) w3 ∧ Kd.C (Kd.int .u8) w3 (some ⟨W.heap.size, 0, none⟩) [255, 254, 0, 0].length [255, 254, 0, 0] ∧ 4 ≤ cap ∧ Below W.heap.size W w3) := Lib.hid (fun W hW => zeros2 hi5 hz5.1 hz5.2.1 hz5.2.2 hW)
  clear hi5 hz5
  obtain ⟨cap3, w3, hr3, hC3, hcap3, hb3⟩ := HZ.out (w2.alloc (.cells #[.int .u8 255, .int .u8 254] 5)) (heap_alloc_new _ _)
  clear HZ
  have HB3 : Hid (Below w2.heap.size w2 w3) := Lib.hid (onA (Below.refl _ _) hb3)
  have hsz : (w2.alloc (.cells #[.int .u8 255, .int .u8 254] 5)).heap.size = w2.heap.size + 1 := by simp
  rw [hsz] at hC3 hr3
  clear hsz
  have HC3 := Lib.hid hC3
  have HR3 := Lib.hid hr3
  clear hC3 hb3 hr3
  go_upto_region 8 with (at_builtin; refine Lib.wpList_append_run _ rfl (.tmp 25) (.tmp 27) 30 3 rfl _ _ rfl rfl _ _ HR3.out ?_)
  generalize (some ⟨w2.heap.size + 1, 0, none⟩ : Option Addr) = A3 at *
  have HCx := Lib.hid (Kd.C_below HC2.out HB3.out)
  have HCy := HC3
  have HB : Hid (Below w.heap.size w w3) := Lib.hid (on (on HB1.out HB2.out) HB3.out)
  have HCl := Lib.hid (Kd.C_below HC.out HB.out)
  replace HC := HCl
  clear HCl HC2 HC3 HB1 HB2 HB3
  have Hcap := Lib.hid hcap3
  clear hcap3
  have HCk := HC
  go_wp2_with (first | (at_builtin; refine print_append_row (w0 := w3) w3.heap.size rfl (.tmp 31) (.tmp 32) 30 5 .u8 1 rfl Try.underlying30 info5 (by omega) (.slice (some ⟨w3.heap.size, 0, none⟩) 0 0) [] [0, 0, 254, 255] A2 4 c2 rfl rfl (own_lit w3 w3.heap.size 5 .u8 [] (Nat.le_refl _) (by simp)) (Kd.reads_of_C (enc := Value.int .u8) (d := (0 : Int)) (h1 := fun _ => rfl) (Kd.C_below HCx.out (below_alloc (Below.refl _ _) _))) (below_alloc (Below.refl _ _) _) (by simp) (by simp) ?_; intro v4 w4 hown4 hb4 hg4 hat4; clear hg4 hat4; have HO4 : Hid (w4.ownsRow w3.heap.size 5 1 v4 [0, 0, 254, 255].length (nums .u8 [0, 0, 254, 255])) := hown4; have HB4 := Lib.hid hb4; replace HC := Lib.hid (Kd.C_below HC.out hb4); have hz4 : w3.heap.size ≤ w4.heap.size := hb4.size; clear hown4 hb4) | (at_builtin; refine print_append_row (w0 := w3) w3.heap.size rfl (.tmp 33) (.tmp 34) 30 5 .u8 1 rfl Try.underlying30 info5 (by omega) v4 [0, 0, 254, 255] l A l.length c rfl rfl HO4.out (Kd.reads_of_C (enc := Value.int .u8) (d := (0 : Int)) (h1 := fun _ => rfl) HC.out) HB4.out hz4 (by simp; omega) ?_; intro v5 w5 hown5 hb5 hg5 hat5; clear hg5 hat5; have HO5 : Hid (w5.ownsRow w3.heap.size 5 1 v5 ([0, 0, 254, 255] ++ l).length (nums .u8 ([0, 0, 254, 255] ++ l))) := hown5; have HB5 := Lib.hid hb5; clear hown5 hb5))
  obtain ⟨A5, c5, rfl, hC5, hc5⟩ := own_row HO5.out
  refine (HX.out _ _ _ hC5 hc5).mono ?_
  rintro e w6 ⟨rfl, hb6⟩
  have hb := below_on HB5.out HB5.out.size hb6
  clear HC HO4 HO5 HB4 HB5 hC5 hc5 hb6 hz4
  have HC := HCk
  clear HCk
  replace HB := Lib.hid (on HB.out hb)
  replace HC := Lib.hid (Kd.C_below HC.out hb)
  replace HCx := Lib.hid (Kd.C_below HCx.out hb)
  replace HCy := Lib.hid (Kd.C_below HCy.out hb)
  clear hb
  go_upto_region 9 with fail
  have hb := below_alloc (Below.refl w6.heap.size w6) (.cells #[.int .i64 0, .int .i64 4, .int .i64 0, .int .i32 0, .int .i32 0, .int .i64 1, .int .i64 0, .int .u32 0, .int .i32 0] 32)
  replace HB := Lib.hid (on HB.out hb)
  replace HC := Lib.hid (Kd.C_below HC.out hb)
  replace HCx := Lib.hid (Kd.C_below HCx.out hb)
  replace HCy := Lib.hid (Kd.C_below HCy.out hb)
  have XK : Hid ((w6.alloc (.cells #[.int .i64 0, .int .i64 4, .int .i64 0, .int .i32 0, .int .i32 0, .int .i64 1, .int .i64 0, .int .u32 0, .int .i32 0] 32)).heap[w6.heap.size]? = some (.cells #[.int .i64 0, .int .i64 4, .int .i64 0, .int .i32 0, .int .i32 0, .int .i64 1, .int .i64 0, .int .u32 0, .int .i32 0] 32 (0, 0))) := Lib.hid (heap_alloc_new _ _)
  have hzx : w6.heap.size < (w6.alloc (.cells #[.int .i64 0, .int .i64 4, .int .i64 0, .int .i32 0, .int .i32 0, .int .i64 1, .int .i64 0, .int .u32 0, .int .i32 0] 32)).heap.size := blk_lt XK.out
  generalize w6.alloc (.cells #[.int .i64 0, .int .i64 4, .int .i64 0, .int .i32 0, .int .i32 0, .int .i64 1, .int .i64 0, .int .u32 0, .int .i32 0] 32) = w7 at *
  generalize w6.heap.size = gx at *
  clear hb
  clear hzx
  have HCk := HC
  go_wp2_with (first | (at_builtin; refine print_append_row (w0 := w7) w7.heap.size rfl (.tmp 39) (.tmp 40) 30 5 .u8 1 rfl Try.underlying30 info5 (by omega) (.slice (some ⟨w7.heap.size, 0, none⟩) 0 0) [] [255, 254, 0, 0] A3 4 cap3 rfl rfl (own_lit w7 w7.heap.size 5 .u8 [] (Nat.le_refl _) (by simp)) (Kd.reads_of_C (enc := Value.int .u8) (d := (0 : Int)) (h1 := fun _ => rfl) (Kd.C_below HCy.out (below_alloc (Below.refl _ _) _))) (below_alloc (Below.refl _ _) _) (by simp) (by simp) ?_; intro v4 w4 hown4 hb4 hg4 hat4; clear hg4 hat4; have HO4 : Hid (w4.ownsRow w7.heap.size 5 1 v4 [255, 254, 0, 0].length (nums .u8 [255, 254, 0, 0])) := hown4; have HB4 := Lib.hid hb4; replace HC := Lib.hid (Kd.C_below HC.out hb4); have hz4 : w7.heap.size ≤ w4.heap.size := hb4.size; clear hown4 hb4) | (at_builtin; refine print_append_row (w0 := w7) w7.heap.size rfl (.tmp 41) (.tmp 42) 30 5 .u8 1 rfl Try.underlying30 info5 (by omega) v4 [255, 254, 0, 0] l A l.length c rfl rfl HO4.out (Kd.reads_of_C (enc := Value.int .u8) (d := (0 : Int)) (h1 := fun _ => rfl) HC.out) HB4.out hz4 (by simp; omega) ?_; intro v5 w5 hown5 hb5 hg5 hat5; clear hg5 hat5; have HO5 : Hid (w5.ownsRow w7.heap.size 5 1 v5 ([255, 254, 0, 0] ++ l).length (nums .u8 ([255, 254, 0, 0] ++ l))) := hown5; have HB5 := Lib.hid hb5; clear hown5 hb5))
  obtain ⟨A5, c5, rfl, hC5, hc5⟩ := own_row HO5.out
  refine (HY.out _ _ _ hC5 hc5).mono ?_
  rintro e w6 ⟨rfl, hb6⟩
  have hb := below_on HB5.out HB5.out.size hb6
  clear HC HO4 HO5 HB4 HB5 hC5 hc5 hb6 hz4
  have HC := HCk
  clear HCk
  replace HB := Lib.hid (on HB.out hb)
  replace HC := Lib.hid (Kd.C_below HC.out hb)
  replace HCx := Lib.hid (Kd.C_below HCx.out hb)
  replace HCy := Lib.hid (Kd.C_below HCy.out hb)
  replace XK := Lib.hid (blk_below XK.out hb)
  clear hb
  go_upto_region 10 with fail
  have hb := below_alloc (Below.refl w6.heap.size w6) (.cells #[.int .i64 0, .int .i64 4, .int .i64 0, .int .i32 0, .int .i32 0, .int .i64 2, .int .i64 0, .int .u32 0, .int .i32 0] 32)
  replace HB := Lib.hid (on HB.out hb)
  replace HC := Lib.hid (Kd.C_below HC.out hb)
  replace HCx := Lib.hid (Kd.C_below HCx.out hb)
  replace HCy := Lib.hid (Kd.C_below HCy.out hb)
  replace XK := Lib.hid (blk_below XK.out hb)
  have YK : Hid ((w6.alloc (.cells #[.int .i64 0, .int .i64 4, .int .i64 0, .int .i32 0, .int .i32 0, .int .i64 2, .int .i64 0, .int .u32 0, .int .i32 0] 32)).heap[w6.heap.size]? = some (.cells #[.int .i64 0, .int .i64 4, .int .i64 0, .int .i32 0, .int .i32 0, .int .i64 2, .int .i64 0, .int .u32 0, .int .i32 0] 32 (0, 0))) := Lib.hid (heap_alloc_new _ _)
  have hzy : w6.heap.size < (w6.alloc (.cells #[.int .i64 0, .int .i64 4, .int .i64 0, .int .i32 0, .int .i32 0, .int .i64 2, .int .i64 0, .int .u32 0, .int .i32 0] 32)).heap.size := blk_lt YK.out
  generalize w6.alloc (.cells #[.int .i64 0, .int .i64 4, .int .i64 0, .int .i32 0, .int .i32 0, .int .i64 2, .int .i64 0, .int .u32 0, .int .i32 0] 32) = w8 at *
  generalize w6.heap.size = gy at *
  clear hb
  have x0 := blk_cell XK.out 0
  have x1 := blk_cell XK.out 1
  have x2 := blk_cell XK.out 2
  have x3 := blk_cell XK.out 3
  have x4 := blk_cell XK.out 4
  have x5 := blk_cell XK.out 5
  have x6 := blk_cell XK.out 6
  have x7 := blk_cell XK.out 7
  have x8 := blk_cell XK.out 8
  have y0 := blk_cell YK.out 0
  have y1 := blk_cell YK.out 1
  have y2 := blk_cell YK.out 2
  have y3 := blk_cell YK.out 3
  have y4 := blk_cell YK.out 4
  have y5 := blk_cell YK.out 5
  have y6 := blk_cell YK.out 6
  have y7 := blk_cell YK.out 7
  have y8 := blk_cell YK.out 8
  go_upto_region 12 with fail
  go_wp2_with fail
  refine (Hp.out _ _ _ HC.out Hc.out).mono ?_
  rintro e wa ⟨rfl, hb⟩
  replace HB := Lib.hid (on HB.out hb)
  replace HC := Lib.hid (Kd.C_below HC.out hb)
  replace HCx := Lib.hid (Kd.C_below HCx.out hb)
  replace HCy := Lib.hid (Kd.C_below HCy.out hb)
  replace XK := Lib.hid (blk_below XK.out hb)
  replace YK := Lib.hid (blk_below YK.out hb)
  clear hb
  clear x0 x1 x2 x3 x4 x5 x6 x7 x8
  clear y0 y1 y2 y3 y4 y5 y6 y7 y8
  go_wp2_with fail
  refine (Hq.out _ _ _ HC.out Hc.out).mono ?_
  rintro e wb ⟨rfl, hb⟩
  replace HB := Lib.hid (on HB.out hb)
  replace HC := Lib.hid (Kd.C_below HC.out hb)
  replace HCx := Lib.hid (Kd.C_below HCx.out hb)
  replace HCy := Lib.hid (Kd.C_below HCy.out hb)
  replace XK := Lib.hid (blk_below XK.out hb)
  replace YK := Lib.hid (blk_below YK.out hb)
  clear hb
  go_upto_region 13 with fail
  have hb := below_alloc (below_alloc (Below.refl wb.heap.size wb) (.cells #[.int .i64 e1, .int .i64 k1, .int .i64 s1, .int .i32 u1, .int .i32 0, .int .i64 m1, .int .i64 0, .int .u32 0, .int .i32 0] 32)) (.cells #[.int .i64 e1, .int .i64 k1, .int .i64 s1, .int .i32 u1, .int .i32 0, .int .i64 n1, .int .i64 0, .int .u32 0, .int .i32 0] 32)
  replace HB := Lib.hid (on HB.out hb)
  replace HC := Lib.hid (Kd.C_below HC.out hb)
  replace HCx := Lib.hid (Kd.C_below HCx.out hb)
  replace HCy := Lib.hid (Kd.C_below HCy.out hb)
  replace XK := Lib.hid (blk_below XK.out hb)
  replace YK := Lib.hid (blk_below YK.out hb)
  have PK : Hid (((wb.alloc (.cells #[.int .i64 e1, .int .i64 k1, .int .i64 s1, .int .i32 u1, .int .i32 0, .int .i64 m1, .int .i64 0, .int .u32 0, .int .i32 0] 32)).alloc (.cells #[.int .i64 e1, .int .i64 k1, .int .i64 s1, .int .i32 u1, .int .i32 0, .int .i64 n1, .int .i64 0, .int .u32 0, .int .i32 0] 32)).heap[wb.heap.size]? = some (.cells #[.int .i64 e1, .int .i64 k1, .int .i64 s1, .int .i32 u1, .int .i32 0, .int .i64 m1, .int .i64 0, .int .u32 0, .int .i32 0] 32 (0, 0))) := Lib.hid (blk_alloc (heap_alloc_new _ _) _)
  have QK : Hid (((wb.alloc (.cells #[.int .i64 e1, .int .i64 k1, .int .i64 s1, .int .i32 u1, .int .i32 0, .int .i64 m1, .int .i64 0, .int .u32 0, .int .i32 0] 32)).alloc (.cells #[.int .i64 e1, .int .i64 k1, .int .i64 s1, .int .i32 u1, .int .i32 0, .int .i64 n1, .int .i64 0, .int .u32 0, .int .i32 0] 32)).heap[wb.heap.size + 1]? = some (.cells #[.int .i64 e1, .int .i64 k1, .int .i64 s1, .int .i32 u1, .int .i32 0, .int .i64 n1, .int .i64 0, .int .u32 0, .int .i32 0] 32 (0, 0))) := Lib.hid (blk_second _ _ _)
  generalize (wb.alloc (.cells #[.int .i64 e1, .int .i64 k1, .int .i64 s1, .int .i32 u1, .int .i32 0, .int .i64 m1, .int .i64 0, .int .u32 0, .int .i32 0] 32)).alloc (.cells #[.int .i64 e1, .int .i64 k1, .int .i64 s1, .int .i32 u1, .int .i32 0, .int .i64 n1, .int .i64 0, .int .u32 0, .int .i32 0] 32) = w13 at *
  generalize wb.heap.size = g13 at *
  clear hb
  have y0 := blk_cell YK.out 0
  have y1 := blk_cell YK.out 1
  have y2 := blk_cell YK.out 2
  have y3 := blk_cell YK.out 3
  have y4 := blk_cell YK.out 4
  have y5 := blk_cell YK.out 5
  have y6 := blk_cell YK.out 6
  have y7 := blk_cell YK.out 7
  have y8 := blk_cell YK.out 8
  go_wp2_with fail
  refine (Hu.out _ _ _ HC.out Hc.out).mono ?_
  rintro e wa ⟨rfl, hb⟩
  replace HB := Lib.hid (on HB.out hb)
  replace HC := Lib.hid (Kd.C_below HC.out hb)
  replace HCx := Lib.hid (Kd.C_below HCx.out hb)
  replace HCy := Lib.hid (Kd.C_below HCy.out hb)
  replace XK := Lib.hid (blk_below XK.out hb)
  replace YK := Lib.hid (blk_below YK.out hb)
  replace PK := Lib.hid (blk_below PK.out hb)
  replace QK := Lib.hid (blk_below QK.out hb)
  clear hb
  clear y0 y1 y2 y3 y4 y5 y6 y7 y8
  go_wp2_with fail
  refine (Hv.out _ _ _ HC.out Hc.out).mono ?_
  rintro e wb ⟨rfl, hb⟩
  replace HB := Lib.hid (on HB.out hb)
  replace HC := Lib.hid (Kd.C_below HC.out hb)
  replace HCx := Lib.hid (Kd.C_below HCx.out hb)
  replace HCy := Lib.hid (Kd.C_below HCy.out hb)
  replace XK := Lib.hid (blk_below XK.out hb)
  replace YK := Lib.hid (blk_below YK.out hb)
  replace PK := Lib.hid (blk_below PK.out hb)
  replace QK := Lib.hid (blk_below QK.out hb)
  clear hb
  go_upto_region 14 with fail
  have hb := below_alloc (below_alloc (Below.refl wb.heap.size wb) (.cells #[.int .i64 e2, .int .i64 k2, .int .i64 s2, .int .i32 u2, .int .i32 0, .int .i64 m2, .int .i64 0, .int .u32 0, .int .i32 0] 32)) (.cells #[.int .i64 e2, .int .i64 k2, .int .i64 s2, .int .i32 u2, .int .i32 0, .int .i64 n2, .int .i64 0, .int .u32 0, .int .i32 0] 32)
  replace HB := Lib.hid (on HB.out hb)
  replace HC := Lib.hid (Kd.C_below HC.out hb)
  replace HCx := Lib.hid (Kd.C_below HCx.out hb)
  replace HCy := Lib.hid (Kd.C_below HCy.out hb)
  replace XK := Lib.hid (blk_below XK.out hb)
  replace YK := Lib.hid (blk_below YK.out hb)
  replace PK := Lib.hid (blk_below PK.out hb)
  replace QK := Lib.hid (blk_below QK.out hb)
  have UK : Hid (((wb.alloc (.cells #[.int .i64 e2, .int .i64 k2, .int .i64 s2, .int .i32 u2, .int .i32 0, .int .i64 m2, .int .i64 0, .int .u32 0, .int .i32 0] 32)).alloc (.cells #[.int .i64 e2, .int .i64 k2, .int .i64 s2, .int .i32 u2, .int .i32 0, .int .i64 n2, .int .i64 0, .int .u32 0, .int .i32 0] 32)).heap[wb.heap.size]? = some (.cells #[.int .i64 e2, .int .i64 k2, .int .i64 s2, .int .i32 u2, .int .i32 0, .int .i64 m2, .int .i64 0, .int .u32 0, .int .i32 0] 32 (0, 0))) := Lib.hid (blk_alloc (heap_alloc_new _ _) _)
  have VK : Hid (((wb.alloc (.cells #[.int .i64 e2, .int .i64 k2, .int .i64 s2, .int .i32 u2, .int .i32 0, .int .i64 m2, .int .i64 0, .int .u32 0, .int .i32 0] 32)).alloc (.cells #[.int .i64 e2, .int .i64 k2, .int .i64 s2, .int .i32 u2, .int .i32 0, .int .i64 n2, .int .i64 0, .int .u32 0, .int .i32 0] 32)).heap[wb.heap.size + 1]? = some (.cells #[.int .i64 e2, .int .i64 k2, .int .i64 s2, .int .i32 u2, .int .i32 0, .int .i64 n2, .int .i64 0, .int .u32 0, .int .i32 0] 32 (0, 0))) := Lib.hid (blk_second _ _ _)
  generalize (wb.alloc (.cells #[.int .i64 e2, .int .i64 k2, .int .i64 s2, .int .i32 u2, .int .i32 0, .int .i64 m2, .int .i64 0, .int .u32 0, .int .i32 0] 32)).alloc (.cells #[.int .i64 e2, .int .i64 k2, .int .i64 s2, .int .i32 u2, .int .i32 0, .int .i64 n2, .int .i64 0, .int .u32 0, .int .i32 0] 32) = w14 at *
  generalize wb.heap.size = g14 at *
  clear hb
  have pc0 := blk_cell PK.out 0
  have pc1 := blk_cell PK.out 1
  have pc2 := blk_cell PK.out 2
  have pc3 := blk_cell PK.out 3
  have qc0 := blk_cell QK.out 0
  have qc1 := blk_cell QK.out 1
  have qc2 := blk_cell QK.out 2
  have qc3 := blk_cell QK.out 3
  have uc0 := blk_cell UK.out 0
  have uc1 := blk_cell UK.out 1
  have uc2 := blk_cell UK.out 2
  have uc3 := blk_cell UK.out 3
  have vc0 := blk_cell VK.out 0
  have vc1 := blk_cell VK.out 1
  have vc2 := blk_cell VK.out 2
  have vc3 := blk_cell VK.out 3
  go_wp2_with fail
  go_ret
  exact ⟨rfl, HB.out⟩
theorem wmarks_walk (w : World) (b : Bool) (a : Option Addr) (len cap : Nat) (zs : List Int) (h : (a = none ∧ len = 0 ∧ cap = 0 ∧ zs = []) ∨ ∃ x, a = some x ∧ len ≤ cap ∧ cap ≤ maxLen ∧ zs.length = cap ∧ (∀ i, i < zs.length → w.cell? (x.add i) = some (.int .u8 (zs.getD i 0))) ∧ ∀ n ∈ zs, (Lit.int .u8 n).wf = true)
    (hl : len * 1 ≤ 140737488351232) : Calls Try.prog 7 #[.bool b, .slice a len cap] w fun e w' => e = .returned (.bool true) ∧ Below w.heap.size w w' := by
  obtain ⟨l, rfl, hC, hc, hb⟩ := open_row h
  cases b
  · exact marks_2 a cap l w hC hc hb (by omega)
  · exact marks_4 a cap l w hC hc hb (by omega)
end Go.Proofs.Ytflmpdfcbdfabaa.Wd
