/- WideBack, walked: what is written with a mark; and whole. No condition. -/
import Derived.Test.YtflmpdfcbdfabaaWBackM
namespace Go.Proofs.Ytflmpdfcbdfabaa.Wd
open Go.RowKit Go.Proofs.YtflmpdfcbdfabaaW.PrintWords Go.Proofs.YtflmpdfcbdfabaaW.PrintLast Go.Proofs.YtflmpdfcbdfabaaW.PrintMore
set_option linter.unusedVariables false
attribute [local go_sem ↓] Go.wp_at_zero Go.wp_at_succ
set_option maxHeartbeats 4000000 in
set_option maxRecDepth 100000 in
theorem back_mark_2 (kind mode u : Int) (A : Option Addr) (c : Nat) (l : List Int) (w : World) (hC : Kd.C (Kd.int .u8) w A l.length l) (hc : l.length ≤ c) (hb : ∀ x ∈ l, Byte x) (hlen : l.length ≤ 140737488351232) (hq : (IntKind.u64.wrap kind).tmod 8 = 2) (hmode : (IntKind.u64.wrap mode).tmod 3 = 0) (mk ub : List Int) (hd : Marked 5 2 u mk ub) (er k1 s1 v1 m1 : Int) (hag : Again 5 1 l er k1 s1 v1 m1) :
    Calls Try.prog 5 #[.int .i64 kind, .int .i64 mode, .int .i32 u, .slice A l.length c] w fun e w' => e = .returned (.bool true) ∧ Below w.heap.size w w' := by
            obtain ⟨hml, hu1, hu4, hubb, hsw, hgw, hgw1⟩ := hd
            have H9 := set_at hsw
            have HLBb : ∀ x ∈ mk ++ ub ++ l, Byte x := by
              intro x hx
              rcases List.mem_append.1 hx with hx | hx
              · exact hubb x hx
              · exact hb x hx
            have HLBb1 : ∀ x ∈ ub ++ l, Byte x := fun x hx => HLBb x (by rw [List.append_assoc]; exact List.mem_append_right _ hx)
            have HG1 := got_at HLBb (hgw l)
            have HG2 := got_at HLBb1 (hgw1 l)
            have HH := got_at hb hag.1
            have HAG := Lib.hid hag.2
            obtain ⟨S, hS⟩ : ∃ S, S = strOfNums (mk ++ ub) := ⟨_, rfl⟩
            rw [← hS] at H9
            have hsz : S.size = (mk ++ ub).length := by rw [hS, str_len]
            have hbo : bytesOf S = mk ++ ub := by rw [hS]; exact bytesOf_str _ hubb
            clear hS
            rw [List.length_append] at hsz
            rw [show ((ub.length : Nat) : Int) = (S.size : Int) - 2 by omega] at HG2
            have hdrop : (mk ++ ub ++ l).drop 2 = ub ++ l := by rw [List.append_assoc, List.drop_append_of_le_length (by omega), List.drop_of_length_le (by omega), List.nil_append]
            have hlbn : 2 ≤ (mk ++ ub ++ l).length := by rw [List.length_append, List.length_append]; omega
            obtain ⟨lb, hlb⟩ : ∃ lb, lb = mk ++ ub ++ l := ⟨_, rfl⟩
            rw [← hlb] at HG1 hdrop hlbn
            have HLB := Lib.hid hlb
            have HBO := Lib.hid hbo
            have hsz1 : S.size ≤ 8 := by omega
            have hsN : (2 : Int) < (S.size : Int) := by omega
            have hul : (mk ++ ub).length ≤ 8 := by rw [List.length_append]; omega
            clear hlb hbo hsz hsw hgw hgw1 hag hubb HLBb HLBb1 hu1 hu4 hml
            have HC := Lib.hid hC
            have Hc := Lib.hid hc
            have Hb := Lib.hid hb
            clear hC hc hb
            go_enter Try.func5, Try.ntmps5
            go_wp2_with fail
            refine (worksC _).mono ?_
            rintro e w1 ⟨rfl, hb1⟩
            have HB : Hid (Below w.heap.size w w1) := Lib.hid hb1
            replace HC := Lib.hid (Kd.C_below HC.out hb1)
            have Hgs : Hid (w.heap.size ≤ w1.heap.size) := Lib.hid hb1.size
            clear hb1
            go_upto_region 7 with fail
            have hb := below_alloc (Below.refl w1.heap.size w1) (.cells #[.int .i64 0, .int .i64 0, .int .u32 0, .int .i32 0] 24)
            replace HB := Lib.hid (on HB.out hb)
            replace HC := Lib.hid (Kd.C_below HC.out hb)
            have SK : Hid ((w1.alloc (.cells #[.int .i64 0, .int .i64 0, .int .u32 0, .int .i32 0] 24)).heap[w1.heap.size]? = some (.cells #[.int .i64 0, .int .i64 0, .int .u32 0, .int .i32 0] 24 (0, 0))) := Lib.hid (heap_alloc_new _ _)
            have hz2 : w1.heap.size < (w1.alloc (.cells #[.int .i64 0, .int .i64 0, .int .u32 0, .int .i32 0] 24)).heap.size := blk_lt SK.out
            clear hb
            generalize w1.alloc (.cells #[.int .i64 0, .int .i64 0, .int .u32 0, .int .i32 0] 24) = w2 at *
            generalize w1.heap.size = gs at *
            have e0 := blk_cell SK.out 0
            have e1 := blk_cell SK.out 1
            have e2 := blk_cell SK.out 2
            have e3 := blk_cell SK.out 3
            go_wp2_with fail
            refine (H9.out _).mono ?_
            rintro e w3 ⟨rfl, hb⟩
            replace HB := Lib.hid (on HB.out hb)
            replace HC := Lib.hid (Kd.C_below HC.out hb)
            replace SK := Lib.hid (blk_below SK.out hb)
            clear e0 e1 e2 e3
            have hz3 : gs < w3.heap.size := blk_lt SK.out
            clear hb hz2
            go_upto_region 8 with fail
            have hb := below_alloc (Below.refl w3.heap.size w3) (.cells #[.int .i64 0, .string S, .int .i64 1, .int .i64 0, .int .u32 0, .int .i32 0] 27)
            replace HB := Lib.hid (on HB.out hb)
            replace HC := Lib.hid (Kd.C_below HC.out hb)
            replace SK := Lib.hid (blk_below SK.out hb)
            have PK : Hid ((w3.alloc (.cells #[.int .i64 0, .string S, .int .i64 1, .int .i64 0, .int .u32 0, .int .i32 0] 27)).heap[w3.heap.size]? = some (.cells #[.int .i64 0, .string S, .int .i64 1, .int .i64 0, .int .u32 0, .int .i32 0] 27 (0, 0))) := Lib.hid (heap_alloc_new _ _)
            have hz4 : w3.heap.size < (w3.alloc (.cells #[.int .i64 0, .string S, .int .i64 1, .int .i64 0, .int .u32 0, .int .i32 0] 27)).heap.size := blk_lt PK.out
            clear hb
            generalize w3.alloc (.cells #[.int .i64 0, .string S, .int .i64 1, .int .i64 0, .int .u32 0, .int .i32 0] 27) = w4 at *
            generalize w3.heap.size = gp at *
            have hz5 : gs < w4.heap.size := blk_lt SK.out
            clear hz3
            have kb := fun W => print_bytes (P := Try.prog) 9 30 5 Try.underlying9 Try.underlying30 Try.underlying5 S W
            have hbz : Below w4.heap.size w4 (Lib.bytesWorld w4 5 S) := bytes_below (Below.refl _ _) (Nat.le_refl _) 5 _
            obtain ⟨A1, c1, w5, hr, hC1, hc1, hb5⟩ := append_run (w0 := w4) (base := w4.heap.size) 30 (OwnB.conv w4 S (by omega)) (Kd.C_below HC.out hbz) hbz (Nat.le_refl _) hbz.size (by rw [HBO.out]; omega)
            rw [HBO.out] at hr hC1 hc1
            rw [← HLB.out] at hr hC1 hc1
            have HR := Lib.hid hr
            have HC1 := Lib.hid hC1
            have Hc1 := Lib.hid hc1
            have HB5 := Lib.hid hb5
            clear hr hC1 hc1 hb5
            have p0 := blk_cell PK.out 0
            have p1 := blk_cell PK.out 1
            have p2 := blk_cell PK.out 2
            have p3 := blk_cell PK.out 3
            have p4 := blk_cell PK.out 4
            have p5 := blk_cell PK.out 5
            go_upto_region 10 with fail
            go_upto_region 11 with (at_builtin; refine Lib.wpList_append_run _ rfl (.tmp 60) (.tmp 61) 30 30 rfl _ _ rfl rfl _ _ HR.out ?_)
            clear kb HR
            clear p0 p1 p2 p3 p4 p5
            replace HB := Lib.hid (on HB.out HB5.out)
            replace HC := Lib.hid (Kd.C_below HC.out HB5.out)
            replace SK := Lib.hid (blk_below SK.out HB5.out)
            replace PK := Lib.hid (blk_below PK.out HB5.out)
            clear HB5
            have hz6 : gs < w5.heap.size := blk_lt SK.out
            have hz7 : gp < w5.heap.size := blk_lt PK.out
            clear hz4 hz5
            obtain ⟨A2, HSL, HSD, Hsc⟩ := drop_at (A := A1) (c := c1) (l := lb) 2 hlbn Hc1.out
            rw [hdrop] at HSL HSD Hsc
            clear hdrop hlbn
            obtain ⟨lb2, hlb2⟩ : ∃ lb2, lb2 = ub ++ l := ⟨_, rfl⟩
            rw [← hlb2] at HSL HSD Hsc HG2
            clear hlb2
            change Hid (∀ W : World, (Instr.slice 30 (.slice A1 lb.length c1) (some (.int .i64 2)) none none).run Try.prog W = .ok (.slice A2 lb2.length (c1 - 2)) W) at HSL
            have e0 := blk_cell SK.out 0
            have e1 := blk_cell SK.out 1
            have e2 := blk_cell SK.out 2
            have e3 := blk_cell SK.out 3
            go_wp2_with fail
            refine (HG1.out _ _ _ HC1.out Hc1.out).mono ?_
            rintro e w6 ⟨rfl, hb⟩
            replace HB := Lib.hid (on HB.out hb)
            replace HC := Lib.hid (Kd.C_below HC.out hb)
            replace SK := Lib.hid (blk_below SK.out hb)
            replace PK := Lib.hid (blk_below PK.out hb)
            replace HC1 := Lib.hid (Kd.C_below HC1.out hb)
            clear e0 e1 e2 e3
            clear hb
            go_upto_region 14 with fail
            have hb := below_alloc (Below.refl w6.heap.size w6) (.cells #[.int .i64 0, .int .i64 2, .int .i64 0, .int .i32 0, .int .i32 0, .int .i64 1, .int .i64 0, .int .u32 0, .int .i32 0] 32)
            replace HB := Lib.hid (on HB.out hb)
            replace HC := Lib.hid (Kd.C_below HC.out hb)
            replace SK := Lib.hid (blk_below SK.out hb)
            replace PK := Lib.hid (blk_below PK.out hb)
            replace HC1 := Lib.hid (Kd.C_below HC1.out hb)
            have G1K : Hid ((w6.alloc (.cells #[.int .i64 0, .int .i64 2, .int .i64 0, .int .i32 0, .int .i32 0, .int .i64 1, .int .i64 0, .int .u32 0, .int .i32 0] 32)).heap[w6.heap.size]? = some (.cells #[.int .i64 0, .int .i64 2, .int .i64 0, .int .i32 0, .int .i32 0, .int .i64 1, .int .i64 0, .int .u32 0, .int .i32 0] 32 (0, 0))) := Lib.hid (heap_alloc_new _ _)
            clear hb
            generalize w6.alloc (.cells #[.int .i64 0, .int .i64 2, .int .i64 0, .int .i32 0, .int .i32 0, .int .i64 1, .int .i64 0, .int .u32 0, .int .i32 0] 32) = w7 at *
            generalize w6.heap.size = g1 at *
            have hy1 : gs < w7.heap.size := blk_lt SK.out
            have hy2 : gp < w7.heap.size := blk_lt PK.out
            have hy3 : g1 < w7.heap.size := blk_lt G1K.out
            clear hz6 hz7
            have p0 := blk_cell PK.out 0
            have p1 := blk_cell PK.out 1
            have p2 := blk_cell PK.out 2
            have p3 := blk_cell PK.out 3
            have p4 := blk_cell PK.out 4
            have p5 := blk_cell PK.out 5
            have g0 := blk_cell G1K.out 0
            have g1 := blk_cell G1K.out 1
            have g2 := blk_cell G1K.out 2
            have g3 := blk_cell G1K.out 3
            have g4 := blk_cell G1K.out 4
            have g5 := blk_cell G1K.out 5
            have g6 := blk_cell G1K.out 6
            have g7 := blk_cell G1K.out 7
            have g8 := blk_cell G1K.out 8
            go_upto_region 16 with fail
            clear p0 p1 p2 p3 p4 p5
            clear g0 g1 g2 g3 g4 g5 g6 g7 g8
            have hgp : gp ≠ gs := blk_ne PK.out SK.out (by decide)
            go_cut [12] (fun s wx => s = .int .i64 2 ∧ Hid (wx.heap[gs]? = some (.cells #[.int .i64 1, .int .i64 0, .int .u32 0, .int .i32 0] 24 (0, 0))) ∧ Hid (wx.heap[gp]? = some (.cells #[.int .i64 0, .string S, .int .i64 1, .int .i64 0, .int .u32 0, .int .i32 0] 27 (0, 0))) ∧ Hid (Below w.heap.size w wx) ∧ Hid (Kd.C (Kd.int .u8) wx A l.length l) ∧ Hid (Kd.C (Kd.int .u8) wx A1 lb.length lb))
            case first =>
              have d1 : w7.drew.cell? ⟨g1, 1, none⟩ = some (.int .i64 2) := blk_cell G1K.out 1
              have d5 : w7.drew.cell? ⟨g1, 5, none⟩ = some (.int .i64 1) := blk_cell G1K.out 5
              have d6 : w7.drew.cell? ⟨g1, 6, none⟩ = some (.int .i64 0) := blk_cell G1K.out 6
              have d7 : w7.drew.cell? ⟨g1, 7, none⟩ = some (.int .u32 0) := blk_cell G1K.out 7
              have d8 : w7.drew.cell? ⟨g1, 8, none⟩ = some (.int .i32 0) := blk_cell G1K.out 8
              have SKd : Hid (w7.drew.heap[gs]? = some (.cells #[.int .i64 0, .int .i64 0, .int .u32 0, .int .i32 0] 24 (0, 0))) := Lib.hid SK.out
              have s0 := blk_cell SKd.out 0
              have t0 := blk_frozen SKd.out 0
              have s1 := blk_cell SKd.out 1
              have t1 := blk_frozen SKd.out 1
              have s2 := blk_cell SKd.out 2
              have t2 := blk_frozen SKd.out 2
              have s3 := blk_cell SKd.out 3
              have t3 := blk_frozen SKd.out 3
              have PKd : Hid (w7.drew.heap[gp]? = some (.cells #[.int .i64 0, .string S, .int .i64 1, .int .i64 0, .int .u32 0, .int .i32 0] 27 (0, 0))) := Lib.hid PK.out
              have HBd : Hid (Below w.heap.size w w7.drew) := Lib.hid (below_drew HB.out)
              have HX : Hid (Below w7.heap.size w7 w7.drew) := Lib.hid (below_drew (Below.refl _ _))
              have x0 := blk_cell SK.out 0
              have x1 := blk_cell SK.out 1
              have x2 := blk_cell SK.out 2
              have x3 := blk_cell SK.out 3
              have y0 := blk_frozen SK.out 0
              have y1 := blk_frozen SK.out 1
              have y2 := blk_frozen SK.out 2
              have y3 := blk_frozen SK.out 3
              go_region_law (fail)
              all_goals
                go_wp2_with fail
                go_meet
                exact ⟨rfl, Lib.hid (blk_drew (put44 SK.out _ _ _ _)), Lib.hid (blk_drew (set4 PK.out hgp _ _ _ _)), Lib.hid (below_drew (below4 HB.out Hgs.out _ _ _ _)), Lib.hid (Kd.C_drew (C_far4 SK.out HC.out _ _ _ _)), Lib.hid (Kd.C_drew (C_far4 SK.out HC1.out _ _ _ _))⟩
            case rest =>
              obtain ⟨rfl, SK, PK, HB, HC, HC1⟩ := hcut
              have hz6 : gs < wc.heap.size := blk_lt SK.out
              have hz7 : gp < wc.heap.size := blk_lt PK.out
              go_upto_region 17 with fail
              go_cut [14] (fun s wx => Cut17 (fun g wy => Hid (wy.heap[g]? = some (.cells #[.int .i64 0, .int .i64 ((S.size : Int) - 2), .int .i64 1, .int .i32 u, .int .i32 0, .int .i64 1, .int .i64 0, .int .u32 0, .int .i32 0] 32 (0, 0))) ∧ Hid (wy.heap[gs]? = some (.cells #[.int .i64 1, .int .i64 0, .int .u32 0, .int .i32 0] 24 (0, 0))) ∧ Hid (wy.heap[gp]? = some (.cells #[.int .i64 0, .string S, .int .i64 1, .int .i64 0, .int .u32 0, .int .i32 0] 27 (0, 0))) ∧ Hid (Below w.heap.size w wy) ∧ Hid (Kd.C (Kd.int .u8) wy A l.length l)) s wx)
              case first =>
                have HX : Hid (Below wc.heap.size wc wc.drew) := Lib.hid (below_drew (Below.refl _ _))
                have HXa : Hid (Below wc.heap.size wc (wc.alloc (.cells #[.int .i64 0, .int .i64 0, .int .i64 0, .int .i32 0, .int .i32 0, .int .i64 0, .int .i64 0, .int .u32 0, .int .i32 0] 32)).drew) := Lib.hid (below_drew (below_alloc (Below.refl _ _) _))
                have d0 : wc.drew.cell? ⟨gs, 0, none⟩ = some (.int .i64 1) := blk_cell SK.out 0
                have d1 : wc.drew.cell? ⟨gs, 1, none⟩ = some (.int .i64 0) := blk_cell SK.out 1
                have d2 : wc.drew.cell? ⟨gs, 2, none⟩ = some (.int .u32 0) := blk_cell SK.out 2
                have d3 : wc.drew.cell? ⟨gs, 3, none⟩ = some (.int .i32 0) := blk_cell SK.out 3
                have b0 : (wc.alloc (.cells #[.int .i64 0, .int .i64 0, .int .i64 0, .int .i32 0, .int .i32 0, .int .i64 0, .int .i64 0, .int .u32 0, .int .i32 0] 32)).drew.cell? ⟨gs, 0, none⟩ = some (.int .i64 1) := blk_cell (blk_alloc SK.out _) 0
                have b1 : (wc.alloc (.cells #[.int .i64 0, .int .i64 0, .int .i64 0, .int .i32 0, .int .i32 0, .int .i64 0, .int .i64 0, .int .u32 0, .int .i32 0] 32)).drew.cell? ⟨gs, 1, none⟩ = some (.int .i64 0) := blk_cell (blk_alloc SK.out _) 1
                have b2 : (wc.alloc (.cells #[.int .i64 0, .int .i64 0, .int .i64 0, .int .i32 0, .int .i32 0, .int .i64 0, .int .i64 0, .int .u32 0, .int .i32 0] 32)).drew.cell? ⟨gs, 2, none⟩ = some (.int .u32 0) := blk_cell (blk_alloc SK.out _) 2
                have b3 : (wc.alloc (.cells #[.int .i64 0, .int .i64 0, .int .i64 0, .int .i32 0, .int .i32 0, .int .i64 0, .int .i64 0, .int .u32 0, .int .i32 0] 32)).drew.cell? ⟨gs, 3, none⟩ = some (.int .i32 0) := blk_cell (blk_alloc SK.out _) 3
                have hsl := HSL.out
                go_region_law (first | (go_simp; go_at_call 11; ((with_reducible refine (HG2.out _ _ _ (HSD.out _ (Kd.C_below HC1.out HX.out)) Hsc.out).mono ?_); rintro e wa ⟨rfl, hb⟩; have HWp := Lib.hid (below_on HX.out HX.out.size hb); clear hb; have SKp := Lib.hid (blk_b SK.out HWp.out hz6); have hne : gs < wa.heap.size := Nat.lt_of_lt_of_le hz6 HWp.out.size)) | (go_simp; go_at_call 11; ((with_reducible refine (HG2.out _ _ _ (HSD.out _ (Kd.C_below HC1.out HXa.out)) Hsc.out).mono ?_); rintro e wa ⟨rfl, hb⟩; have GZ : Hid (wa.heap[wc.heap.size]? = some (.cells #[.int .i64 0, .int .i64 0, .int .i64 0, .int .i32 0, .int .i32 0, .int .i64 0, .int .i64 0, .int .u32 0, .int .i32 0] 32 (0, 0))) := Lib.hid (blk_below (blk_drew (heap_alloc_new _ _)) hb); have HWq := Lib.hid (below_on HXa.out HXa.out.size hb); clear hb; have SKq := Lib.hid (blk_b SK.out HWq.out hz6); have hne : gs < wa.heap.size := Nat.lt_of_lt_of_le hz6 HWq.out.size; have hnz : wc.heap.size < wa.heap.size := blk_lt GZ.out; have r0 := blk_cell GZ.out 0; have r1 := blk_cell GZ.out 1; have r2 := blk_cell GZ.out 2; have r3 := blk_cell GZ.out 3; have r4 := blk_cell GZ.out 4; have r5 := blk_cell GZ.out 5; have r6 := blk_cell GZ.out 6; have r7 := blk_cell GZ.out 7; have r8 := blk_cell GZ.out 8; have t0 := blk_frozen GZ.out 0; have t1 := blk_frozen GZ.out 1; have t2 := blk_frozen GZ.out 2; have t3 := blk_frozen GZ.out 3; have t4 := blk_frozen GZ.out 4; have t5 := blk_frozen GZ.out 5; have t6 := blk_frozen GZ.out 6; have t7 := blk_frozen GZ.out 7; have t8 := blk_frozen GZ.out 8)) | fail)
                all_goals
                  go_wp2_with fail
                  go_meet
                  first | (have hx_ := HWp.out; clear hx_; exact ⟨wa.heap.size, rfl, Lib.hid (heap_alloc_new _ _), Lib.hid (blk_alloc SKp.out _), Lib.hid (blk_alloc (blk_b PK.out HWp.out hz7) _), Lib.hid (below_alloc (on HB.out HWp.out) _), Lib.hid (Kd.C_below HC.out (below_alloc HWp.out _))⟩) | (have hx_ := HWq.out; clear hx_; exact ⟨wc.heap.size, rfl, Lib.hid (put9 GZ.out _ _ _ _ _ _ _ _ _), Lib.hid (set9 SKq.out (Nat.ne_of_lt hz6) _ _ _ _ _ _ _ _ _), Lib.hid (set9 (blk_b PK.out HWq.out hz7) (Nat.ne_of_lt hz7) _ _ _ _ _ _ _ _ _), Lib.hid (below9 (on HB.out HWq.out) HB.out.size _ _ _ _ _ _ _ _ _), Lib.hid (Kd.C_below HC.out (below9 HWq.out (Nat.le_refl _) _ _ _ _ _ _ _ _ _))⟩)
              case rest =>
                obtain ⟨gg, rfl, GK, SK, PK, HB, HC⟩ := hcut
                clear HSD HSL Hsc
                have hz8 : gs < wc.heap.size := blk_lt SK.out
                have hz9 : gp < wc.heap.size := blk_lt PK.out
                have hz10 : gg < wc.heap.size := blk_lt GK.out
                have e0 := blk_cell SK.out 0
                have e1 := blk_cell SK.out 1
                have e2 := blk_cell SK.out 2
                have e3 := blk_cell SK.out 3
                have p0 := blk_cell PK.out 0
                have p1 := blk_cell PK.out 1
                have p2 := blk_cell PK.out 2
                have p3 := blk_cell PK.out 3
                have p4 := blk_cell PK.out 4
                have p5 := blk_cell PK.out 5
                have g0 := blk_cell GK.out 0
                have g1 := blk_cell GK.out 1
                have g2 := blk_cell GK.out 2
                have g3 := blk_cell GK.out 3
                have g4 := blk_cell GK.out 4
                have g5 := blk_cell GK.out 5
                have g6 := blk_cell GK.out 6
                have g7 := blk_cell GK.out 7
                have g8 := blk_cell GK.out 8
                go_upto_region 20 with fail
                clear p0 p1 p2 p3 p4 p5
                clear g0 g1 g2 g3 g4 g5 g6 g7 g8
                go_wp2_with fail
                refine (HH.out _ _ _ HC.out Hc.out).mono ?_
                rintro e w9 ⟨rfl, hb⟩
                replace HB := Lib.hid (on HB.out hb)
                replace HC := Lib.hid (Kd.C_below HC.out hb)
                replace SK := Lib.hid (blk_below SK.out hb)
                replace PK := Lib.hid (blk_below PK.out hb)
                replace GK := Lib.hid (blk_below GK.out hb)
                clear hb
                clear e0 e1 e2 e3
                go_upto_region 21 with fail
                have hb := below_alloc (Below.refl w9.heap.size w9) (.cells #[.int .i64 er, .int .i64 k1, .int .i64 s1, .int .i32 v1, .int .i32 0, .int .i64 m1, .int .i64 0, .int .u32 0, .int .i32 0] 32)
                replace HB := Lib.hid (on HB.out hb)
                replace HC := Lib.hid (Kd.C_below HC.out hb)
                replace SK := Lib.hid (blk_below SK.out hb)
                replace PK := Lib.hid (blk_below PK.out hb)
                replace GK := Lib.hid (blk_below GK.out hb)
                have HK : Hid ((w9.alloc (.cells #[.int .i64 er, .int .i64 k1, .int .i64 s1, .int .i32 v1, .int .i32 0, .int .i64 m1, .int .i64 0, .int .u32 0, .int .i32 0] 32)).heap[w9.heap.size]? = some (.cells #[.int .i64 er, .int .i64 k1, .int .i64 s1, .int .i32 v1, .int .i32 0, .int .i64 m1, .int .i64 0, .int .u32 0, .int .i32 0] 32 (0, 0))) := Lib.hid (heap_alloc_new _ _)
                clear hb
                generalize w9.alloc (.cells #[.int .i64 er, .int .i64 k1, .int .i64 s1, .int .i32 v1, .int .i32 0, .int .i64 m1, .int .i64 0, .int .u32 0, .int .i32 0] 32) = w10 at *
                generalize w9.heap.size = gh at *
                have hz11 : gs < w10.heap.size := blk_lt SK.out
                have hz12 : gh < w10.heap.size := blk_lt HK.out
                clear hz8 hz9 hz10
                have h0 := blk_cell HK.out 0
                have h1 := blk_cell HK.out 1
                have h3 := blk_cell HK.out 3
                have e0 := blk_cell SK.out 0
                have e1 := blk_cell SK.out 1
                have e2 := blk_cell SK.out 2
                have e3 := blk_cell SK.out 3
                rcases HAG.out with hne | ⟨he, j, hk, hj, hsw⟩
                · clear HAG
                  have hne2 : (er != 0) = true := by simp only [bne, hne, Bool.not_false]
                  go_quiet (fail)
                  go_wp2_with fail
                  go_ret
                  exact ⟨rfl, pw_below_drewN HB.out _⟩
                · clear HAG
                  subst he hk
                  have HS2 := set_at hsw
                  clear hsw
                  have hcv : ∀ W', Below w10.heap.size w10 W' → (convert 30 9 (.slice A j c)).run Try.prog W' = .ok (.string (strOfNums (l.take j))) W' := by
                    intro W' hW'
                    have h1 := Kd.C_take (m := j) (Kd.C_below HC.out hW') hj
                    rw [List.length_take, Nat.min_eq_left hj] at h1
                    exact Kd.C_string (P := Try.prog) Try.underlying30 Try.underlying5 Try.underlying9 h1
                  have HCV := Lib.hid hcv
                  clear hcv
                  generalize strOfNums (l.take j) = T at *
                  have hsl := take_at (A := A) j hj Hc.out
                  have hjc : j ≤ c := Nat.le_trans hj Hc.out
                  have i0 : (0 : Int) ≤ (j : Int) := by omega
                  have i1 : (j : Int) ≤ (l.length : Int) := by omega
                  have i2 : (j : Int) ≤ (c : Int) := by omega
                  have HX : Hid (Below w10.heap.size w10 w10.drew) := Lib.hid (below_drew (Below.refl _ _))
                  have SKd : Hid (w10.drew.heap[gs]? = some (.cells #[.int .i64 1, .int .i64 0, .int .u32 0, .int .i32 0] 24 (0, 0))) := Lib.hid SK.out
                  have HKd : Hid (w10.drew.heap[gh]? = some (.cells #[.int .i64 0, .int .i64 j, .int .i64 s1, .int .i32 v1, .int .i32 0, .int .i64 m1, .int .i64 0, .int .u32 0, .int .i32 0] 32 (0, 0))) := Lib.hid HK.out
                  go_region_held3 (fun w' => w'.cell? ⟨gs, 0, none⟩ = some (.int .i64 1) ∧ w'.cell? ⟨gs, 1, none⟩ = some (.int .i64 0) ∧ w'.cell? ⟨gs, 2, none⟩ = some (.int .u32 0) ∧ w'.cell? ⟨gs, 3, none⟩ = some (.int .i32 0) ∧ w'.cell? ⟨gh, 0, none⟩ = some (.int .i64 0) ∧ w'.cell? ⟨gh, 1, none⟩ = some (.int .i64 j) ∧ w'.cell? ⟨gh, 3, none⟩ = some (.int .i32 v1) ∧ (convert 30 9 (.slice A j c)).run Try.prog w' = .ok (.string T) w') (exact ⟨blk_cell SKd.out 0, blk_cell SKd.out 1, blk_cell SKd.out 2, blk_cell SKd.out 3, blk_cell HKd.out 0, blk_cell HKd.out 1, blk_cell HKd.out 3, HCV.out _ HX.out⟩) (first | (go_at_call 9; (with_reducible refine (HS2.out _).mono ?_); rintro e wa ⟨rfl, hb⟩; replace SKd := Lib.hid (blk_below SKd.out hb); replace HKd := Lib.hid (blk_below HKd.out hb); replace HX := Lib.hid (below_on HX.out HX.out.size hb); clear hb) | fail)
                  all_goals
                    go_wp2_with fail
                    go_ret
                    exact ⟨rfl, on HB.out HX.out⟩
set_option maxHeartbeats 4000000 in
set_option maxRecDepth 100000 in
theorem back_mark_5 (kind mode u : Int) (A : Option Addr) (c : Nat) (l : List Int) (w : World) (hC : Kd.C (Kd.int .u8) w A l.length l) (hc : l.length ≤ c) (hb : ∀ x ∈ l, Byte x) (hlen : l.length ≤ 140737488351232) (hq : (IntKind.u64.wrap kind).tmod 8 = 5) (hmode : (IntKind.u64.wrap mode).tmod 3 = 0) (mk ub : List Int) (hd : Marked 8 4 u mk ub) (er k1 s1 v1 m1 : Int) (hag : Again 8 1 l er k1 s1 v1 m1) :
    Calls Try.prog 5 #[.int .i64 kind, .int .i64 mode, .int .i32 u, .slice A l.length c] w fun e w' => e = .returned (.bool true) ∧ Below w.heap.size w w' := by
  obtain ⟨hml, hu1, hu4, hubb, hsw, hgw, hgw1⟩ := hd
  have H9 := set_at hsw
  have HLBb : ∀ x ∈ mk ++ ub ++ l, Byte x := by
    intro x hx
    rcases List.mem_append.1 hx with hx | hx
    · exact hubb x hx
    · exact hb x hx
  have HLBb1 : ∀ x ∈ ub ++ l, Byte x := fun x hx => HLBb x (by rw [List.append_assoc]; exact List.mem_append_right _ hx)
  have HG1 := got_at HLBb (hgw l)
  have HG2 := got_at HLBb1 (hgw1 l)
  have HH := got_at hb hag.1
  have HAG := Lib.hid hag.2
  obtain ⟨S, hS⟩ : ∃ S, S = strOfNums (mk ++ ub) := ⟨_, rfl⟩
  rw [← hS] at H9
  have hsz : S.size = (mk ++ ub).length := by rw [hS, str_len]
  have hbo : bytesOf S = mk ++ ub := by rw [hS]; exact bytesOf_str _ hubb
  clear hS
  rw [List.length_append] at hsz
  rw [show ((ub.length : Nat) : Int) = (S.size : Int) - 4 by omega] at HG2
  have hdrop : (mk ++ ub ++ l).drop 4 = ub ++ l := by rw [List.append_assoc, List.drop_append_of_le_length (by omega), List.drop_of_length_le (by omega), List.nil_append]
  have hlbn : 4 ≤ (mk ++ ub ++ l).length := by rw [List.length_append, List.length_append]; omega
  obtain ⟨lb, hlb⟩ : ∃ lb, lb = mk ++ ub ++ l := ⟨_, rfl⟩
  rw [← hlb] at HG1 hdrop hlbn
  have HLB := Lib.hid hlb
  have HBO := Lib.hid hbo
  have hsz1 : S.size ≤ 8 := by omega
  have hsN : (4 : Int) < (S.size : Int) := by omega
  have hul : (mk ++ ub).length ≤ 8 := by rw [List.length_append]; omega
  clear hlb hbo hsz hsw hgw hgw1 hag hubb HLBb HLBb1 hu1 hu4 hml
  have HC := Lib.hid hC
  have Hc := Lib.hid hc
  have Hb := Lib.hid hb
  clear hC hc hb
  go_enter Try.func5, Try.ntmps5
  go_wp2_with fail
  refine (worksC _).mono ?_
  rintro e w1 ⟨rfl, hb1⟩
  have HB : Hid (Below w.heap.size w w1) := Lib.hid hb1
  replace HC := Lib.hid (Kd.C_below HC.out hb1)
  have Hgs : Hid (w.heap.size ≤ w1.heap.size) := Lib.hid hb1.size
  clear hb1
  go_upto_region 7 with fail
  have hb := below_alloc (Below.refl w1.heap.size w1) (.cells #[.int .i64 0, .int .i64 0, .int .u32 0, .int .i32 0] 24)
  replace HB := Lib.hid (on HB.out hb)
  replace HC := Lib.hid (Kd.C_below HC.out hb)
  have SK : Hid ((w1.alloc (.cells #[.int .i64 0, .int .i64 0, .int .u32 0, .int .i32 0] 24)).heap[w1.heap.size]? = some (.cells #[.int .i64 0, .int .i64 0, .int .u32 0, .int .i32 0] 24 (0, 0))) := Lib.hid (heap_alloc_new _ _)
  have hz2 : w1.heap.size < (w1.alloc (.cells #[.int .i64 0, .int .i64 0, .int .u32 0, .int .i32 0] 24)).heap.size := blk_lt SK.out
  clear hb
  generalize w1.alloc (.cells #[.int .i64 0, .int .i64 0, .int .u32 0, .int .i32 0] 24) = w2 at *
  generalize w1.heap.size = gs at *
  have e0 := blk_cell SK.out 0
  have e1 := blk_cell SK.out 1
  have e2 := blk_cell SK.out 2
  have e3 := blk_cell SK.out 3
  go_wp2_with fail
  refine (H9.out _).mono ?_
  rintro e w3 ⟨rfl, hb⟩
  replace HB := Lib.hid (on HB.out hb)
  replace HC := Lib.hid (Kd.C_below HC.out hb)
  replace SK := Lib.hid (blk_below SK.out hb)
  clear e0 e1 e2 e3
  have hz3 : gs < w3.heap.size := blk_lt SK.out
  clear hb hz2
  go_upto_region 8 with fail
  have hb := below_alloc (Below.refl w3.heap.size w3) (.cells #[.int .i64 0, .string S, .int .i64 1, .int .i64 0, .int .u32 0, .int .i32 0] 27)
  replace HB := Lib.hid (on HB.out hb)
  replace HC := Lib.hid (Kd.C_below HC.out hb)
  replace SK := Lib.hid (blk_below SK.out hb)
  have PK : Hid ((w3.alloc (.cells #[.int .i64 0, .string S, .int .i64 1, .int .i64 0, .int .u32 0, .int .i32 0] 27)).heap[w3.heap.size]? = some (.cells #[.int .i64 0, .string S, .int .i64 1, .int .i64 0, .int .u32 0, .int .i32 0] 27 (0, 0))) := Lib.hid (heap_alloc_new _ _)
  have hz4 : w3.heap.size < (w3.alloc (.cells #[.int .i64 0, .string S, .int .i64 1, .int .i64 0, .int .u32 0, .int .i32 0] 27)).heap.size := blk_lt PK.out
  clear hb
  generalize w3.alloc (.cells #[.int .i64 0, .string S, .int .i64 1, .int .i64 0, .int .u32 0, .int .i32 0] 27) = w4 at *
  generalize w3.heap.size = gp at *
  have hz5 : gs < w4.heap.size := blk_lt SK.out
  clear hz3
  have kb := fun W => print_bytes (P := Try.prog) 9 30 5 Try.underlying9 Try.underlying30 Try.underlying5 S W
  have hbz : Below w4.heap.size w4 (Lib.bytesWorld w4 5 S) := bytes_below (Below.refl _ _) (Nat.le_refl _) 5 _
  obtain ⟨A1, c1, w5, hr, hC1, hc1, hb5⟩ := append_run (w0 := w4) (base := w4.heap.size) 30 (OwnB.conv w4 S (by omega)) (Kd.C_below HC.out hbz) hbz (Nat.le_refl _) hbz.size (by rw [HBO.out]; omega)
  rw [HBO.out] at hr hC1 hc1
  rw [← HLB.out] at hr hC1 hc1
  have HR := Lib.hid hr
  have HC1 := Lib.hid hC1
  have Hc1 := Lib.hid hc1
  have HB5 := Lib.hid hb5
  clear hr hC1 hc1 hb5
  have p0 := blk_cell PK.out 0
  have p1 := blk_cell PK.out 1
  have p2 := blk_cell PK.out 2
  have p3 := blk_cell PK.out 3
  have p4 := blk_cell PK.out 4
  have p5 := blk_cell PK.out 5
  go_upto_region 10 with fail
  go_upto_region 11 with (at_builtin; refine Lib.wpList_append_run _ rfl (.tmp 60) (.tmp 61) 30 30 rfl _ _ rfl rfl _ _ HR.out ?_)
  clear kb HR
  clear p0 p1 p2 p3 p4 p5
  replace HB := Lib.hid (on HB.out HB5.out)
  replace HC := Lib.hid (Kd.C_below HC.out HB5.out)
  replace SK := Lib.hid (blk_below SK.out HB5.out)
  replace PK := Lib.hid (blk_below PK.out HB5.out)
  clear HB5
  have hz6 : gs < w5.heap.size := blk_lt SK.out
  have hz7 : gp < w5.heap.size := blk_lt PK.out
  clear hz4 hz5
  obtain ⟨A2, HSL, HSD, Hsc⟩ := drop_at (A := A1) (c := c1) (l := lb) 4 hlbn Hc1.out
  rw [hdrop] at HSL HSD Hsc
  clear hdrop hlbn
  obtain ⟨lb2, hlb2⟩ : ∃ lb2, lb2 = ub ++ l := ⟨_, rfl⟩
  rw [← hlb2] at HSL HSD Hsc HG2
  clear hlb2
  change Hid (∀ W : World, (Instr.slice 30 (.slice A1 lb.length c1) (some (.int .i64 4)) none none).run Try.prog W = .ok (.slice A2 lb2.length (c1 - 4)) W) at HSL
  have e0 := blk_cell SK.out 0
  have e1 := blk_cell SK.out 1
  have e2 := blk_cell SK.out 2
  have e3 := blk_cell SK.out 3
  go_wp2_with fail
  refine (HG1.out _ _ _ HC1.out Hc1.out).mono ?_
  rintro e w6 ⟨rfl, hb⟩
  replace HB := Lib.hid (on HB.out hb)
  replace HC := Lib.hid (Kd.C_below HC.out hb)
  replace SK := Lib.hid (blk_below SK.out hb)
  replace PK := Lib.hid (blk_below PK.out hb)
  replace HC1 := Lib.hid (Kd.C_below HC1.out hb)
  clear e0 e1 e2 e3
  clear hb
  go_upto_region 14 with fail
  have hb := below_alloc (Below.refl w6.heap.size w6) (.cells #[.int .i64 0, .int .i64 4, .int .i64 0, .int .i32 0, .int .i32 0, .int .i64 1, .int .i64 0, .int .u32 0, .int .i32 0] 32)
  replace HB := Lib.hid (on HB.out hb)
  replace HC := Lib.hid (Kd.C_below HC.out hb)
  replace SK := Lib.hid (blk_below SK.out hb)
  replace PK := Lib.hid (blk_below PK.out hb)
  replace HC1 := Lib.hid (Kd.C_below HC1.out hb)
  have G1K : Hid ((w6.alloc (.cells #[.int .i64 0, .int .i64 4, .int .i64 0, .int .i32 0, .int .i32 0, .int .i64 1, .int .i64 0, .int .u32 0, .int .i32 0] 32)).heap[w6.heap.size]? = some (.cells #[.int .i64 0, .int .i64 4, .int .i64 0, .int .i32 0, .int .i32 0, .int .i64 1, .int .i64 0, .int .u32 0, .int .i32 0] 32 (0, 0))) := Lib.hid (heap_alloc_new _ _)
  clear hb
  generalize w6.alloc (.cells #[.int .i64 0, .int .i64 4, .int .i64 0, .int .i32 0, .int .i32 0, .int .i64 1, .int .i64 0, .int .u32 0, .int .i32 0] 32) = w7 at *
  generalize w6.heap.size = g1 at *
  have hy1 : gs < w7.heap.size := blk_lt SK.out
  have hy2 : gp < w7.heap.size := blk_lt PK.out
  have hy3 : g1 < w7.heap.size := blk_lt G1K.out
  clear hz6 hz7
  have p0 := blk_cell PK.out 0
  have p1 := blk_cell PK.out 1
  have p2 := blk_cell PK.out 2
  have p3 := blk_cell PK.out 3
  have p4 := blk_cell PK.out 4
  have p5 := blk_cell PK.out 5
  have g0 := blk_cell G1K.out 0
  have g1 := blk_cell G1K.out 1
  have g2 := blk_cell G1K.out 2
  have g3 := blk_cell G1K.out 3
  have g4 := blk_cell G1K.out 4
  have g5 := blk_cell G1K.out 5
  have g6 := blk_cell G1K.out 6
  have g7 := blk_cell G1K.out 7
  have g8 := blk_cell G1K.out 8
  go_upto_region 16 with fail
  clear p0 p1 p2 p3 p4 p5
  clear g0 g1 g2 g3 g4 g5 g6 g7 g8
  have hgp : gp ≠ gs := blk_ne PK.out SK.out (by decide)
  go_cut [12] (fun s wx => s = .int .i64 4 ∧ Hid (wx.heap[gs]? = some (.cells #[.int .i64 1, .int .i64 0, .int .u32 0, .int .i32 0] 24 (0, 0))) ∧ Hid (wx.heap[gp]? = some (.cells #[.int .i64 0, .string S, .int .i64 1, .int .i64 0, .int .u32 0, .int .i32 0] 27 (0, 0))) ∧ Hid (Below w.heap.size w wx) ∧ Hid (Kd.C (Kd.int .u8) wx A l.length l) ∧ Hid (Kd.C (Kd.int .u8) wx A1 lb.length lb))
  case first =>
    have d1 : w7.drew.cell? ⟨g1, 1, none⟩ = some (.int .i64 4) := blk_cell G1K.out 1
    have d5 : w7.drew.cell? ⟨g1, 5, none⟩ = some (.int .i64 1) := blk_cell G1K.out 5
    have d6 : w7.drew.cell? ⟨g1, 6, none⟩ = some (.int .i64 0) := blk_cell G1K.out 6
    have d7 : w7.drew.cell? ⟨g1, 7, none⟩ = some (.int .u32 0) := blk_cell G1K.out 7
    have d8 : w7.drew.cell? ⟨g1, 8, none⟩ = some (.int .i32 0) := blk_cell G1K.out 8
    have SKd : Hid (w7.drew.heap[gs]? = some (.cells #[.int .i64 0, .int .i64 0, .int .u32 0, .int .i32 0] 24 (0, 0))) := Lib.hid SK.out
    have s0 := blk_cell SKd.out 0
    have t0 := blk_frozen SKd.out 0
    have s1 := blk_cell SKd.out 1
    have t1 := blk_frozen SKd.out 1
    have s2 := blk_cell SKd.out 2
    have t2 := blk_frozen SKd.out 2
    have s3 := blk_cell SKd.out 3
    have t3 := blk_frozen SKd.out 3
    have PKd : Hid (w7.drew.heap[gp]? = some (.cells #[.int .i64 0, .string S, .int .i64 1, .int .i64 0, .int .u32 0, .int .i32 0] 27 (0, 0))) := Lib.hid PK.out
    have HBd : Hid (Below w.heap.size w w7.drew) := Lib.hid (below_drew HB.out)
    have HX : Hid (Below w7.heap.size w7 w7.drew) := Lib.hid (below_drew (Below.refl _ _))
    have x0 := blk_cell SK.out 0
    have x1 := blk_cell SK.out 1
    have x2 := blk_cell SK.out 2
    have x3 := blk_cell SK.out 3
    have y0 := blk_frozen SK.out 0
    have y1 := blk_frozen SK.out 1
    have y2 := blk_frozen SK.out 2
    have y3 := blk_frozen SK.out 3
    go_region_law (fail)
    all_goals
      go_wp2_with fail
      go_meet
      exact ⟨rfl, Lib.hid (blk_drew (put44 SK.out _ _ _ _)), Lib.hid (blk_drew (set4 PK.out hgp _ _ _ _)), Lib.hid (below_drew (below4 HB.out Hgs.out _ _ _ _)), Lib.hid (Kd.C_drew (C_far4 SK.out HC.out _ _ _ _)), Lib.hid (Kd.C_drew (C_far4 SK.out HC1.out _ _ _ _))⟩
  case rest =>
    obtain ⟨rfl, SK, PK, HB, HC, HC1⟩ := hcut
    have hz6 : gs < wc.heap.size := blk_lt SK.out
    have hz7 : gp < wc.heap.size := blk_lt PK.out
    go_upto_region 17 with fail
    go_cut [14] (fun s wx => Cut17 (fun g wy => Hid (wy.heap[g]? = some (.cells #[.int .i64 0, .int .i64 ((S.size : Int) - 4), .int .i64 1, .int .i32 u, .int .i32 0, .int .i64 1, .int .i64 0, .int .u32 0, .int .i32 0] 32 (0, 0))) ∧ Hid (wy.heap[gs]? = some (.cells #[.int .i64 1, .int .i64 0, .int .u32 0, .int .i32 0] 24 (0, 0))) ∧ Hid (wy.heap[gp]? = some (.cells #[.int .i64 0, .string S, .int .i64 1, .int .i64 0, .int .u32 0, .int .i32 0] 27 (0, 0))) ∧ Hid (Below w.heap.size w wy) ∧ Hid (Kd.C (Kd.int .u8) wy A l.length l)) s wx)
    case first =>
      have HX : Hid (Below wc.heap.size wc wc.drew) := Lib.hid (below_drew (Below.refl _ _))
      have HXa : Hid (Below wc.heap.size wc (wc.alloc (.cells #[.int .i64 0, .int .i64 0, .int .i64 0, .int .i32 0, .int .i32 0, .int .i64 0, .int .i64 0, .int .u32 0, .int .i32 0] 32)).drew) := Lib.hid (below_drew (below_alloc (Below.refl _ _) _))
      have d0 : wc.drew.cell? ⟨gs, 0, none⟩ = some (.int .i64 1) := blk_cell SK.out 0
      have d1 : wc.drew.cell? ⟨gs, 1, none⟩ = some (.int .i64 0) := blk_cell SK.out 1
      have d2 : wc.drew.cell? ⟨gs, 2, none⟩ = some (.int .u32 0) := blk_cell SK.out 2
      have d3 : wc.drew.cell? ⟨gs, 3, none⟩ = some (.int .i32 0) := blk_cell SK.out 3
      have b0 : (wc.alloc (.cells #[.int .i64 0, .int .i64 0, .int .i64 0, .int .i32 0, .int .i32 0, .int .i64 0, .int .i64 0, .int .u32 0, .int .i32 0] 32)).drew.cell? ⟨gs, 0, none⟩ = some (.int .i64 1) := blk_cell (blk_alloc SK.out _) 0
      have b1 : (wc.alloc (.cells #[.int .i64 0, .int .i64 0, .int .i64 0, .int .i32 0, .int .i32 0, .int .i64 0, .int .i64 0, .int .u32 0, .int .i32 0] 32)).drew.cell? ⟨gs, 1, none⟩ = some (.int .i64 0) := blk_cell (blk_alloc SK.out _) 1
      have b2 : (wc.alloc (.cells #[.int .i64 0, .int .i64 0, .int .i64 0, .int .i32 0, .int .i32 0, .int .i64 0, .int .i64 0, .int .u32 0, .int .i32 0] 32)).drew.cell? ⟨gs, 2, none⟩ = some (.int .u32 0) := blk_cell (blk_alloc SK.out _) 2
      have b3 : (wc.alloc (.cells #[.int .i64 0, .int .i64 0, .int .i64 0, .int .i32 0, .int .i32 0, .int .i64 0, .int .i64 0, .int .u32 0, .int .i32 0] 32)).drew.cell? ⟨gs, 3, none⟩ = some (.int .i32 0) := blk_cell (blk_alloc SK.out _) 3
      have hsl := HSL.out
      go_region_law (first | (go_simp; go_at_call 11; ((with_reducible refine (HG2.out _ _ _ (HSD.out _ (Kd.C_below HC1.out HX.out)) Hsc.out).mono ?_); rintro e wa ⟨rfl, hb⟩; have HWp := Lib.hid (below_on HX.out HX.out.size hb); clear hb; have SKp := Lib.hid (blk_b SK.out HWp.out hz6); have hne : gs < wa.heap.size := Nat.lt_of_lt_of_le hz6 HWp.out.size)) | (go_simp; go_at_call 11; ((with_reducible refine (HG2.out _ _ _ (HSD.out _ (Kd.C_below HC1.out HXa.out)) Hsc.out).mono ?_); rintro e wa ⟨rfl, hb⟩; have GZ : Hid (wa.heap[wc.heap.size]? = some (.cells #[.int .i64 0, .int .i64 0, .int .i64 0, .int .i32 0, .int .i32 0, .int .i64 0, .int .i64 0, .int .u32 0, .int .i32 0] 32 (0, 0))) := Lib.hid (blk_below (blk_drew (heap_alloc_new _ _)) hb); have HWq := Lib.hid (below_on HXa.out HXa.out.size hb); clear hb; have SKq := Lib.hid (blk_b SK.out HWq.out hz6); have hne : gs < wa.heap.size := Nat.lt_of_lt_of_le hz6 HWq.out.size; have hnz : wc.heap.size < wa.heap.size := blk_lt GZ.out; have r0 := blk_cell GZ.out 0; have r1 := blk_cell GZ.out 1; have r2 := blk_cell GZ.out 2; have r3 := blk_cell GZ.out 3; have r4 := blk_cell GZ.out 4; have r5 := blk_cell GZ.out 5; have r6 := blk_cell GZ.out 6; have r7 := blk_cell GZ.out 7; have r8 := blk_cell GZ.out 8; have t0 := blk_frozen GZ.out 0; have t1 := blk_frozen GZ.out 1; have t2 := blk_frozen GZ.out 2; have t3 := blk_frozen GZ.out 3; have t4 := blk_frozen GZ.out 4; have t5 := blk_frozen GZ.out 5; have t6 := blk_frozen GZ.out 6; have t7 := blk_frozen GZ.out 7; have t8 := blk_frozen GZ.out 8)) | fail)
      all_goals
        go_wp2_with fail
        go_meet
        first | (have hx_ := HWp.out; clear hx_; exact ⟨wa.heap.size, rfl, Lib.hid (heap_alloc_new _ _), Lib.hid (blk_alloc SKp.out _), Lib.hid (blk_alloc (blk_b PK.out HWp.out hz7) _), Lib.hid (below_alloc (on HB.out HWp.out) _), Lib.hid (Kd.C_below HC.out (below_alloc HWp.out _))⟩) | (have hx_ := HWq.out; clear hx_; exact ⟨wc.heap.size, rfl, Lib.hid (put9 GZ.out _ _ _ _ _ _ _ _ _), Lib.hid (set9 SKq.out (Nat.ne_of_lt hz6) _ _ _ _ _ _ _ _ _), Lib.hid (set9 (blk_b PK.out HWq.out hz7) (Nat.ne_of_lt hz7) _ _ _ _ _ _ _ _ _), Lib.hid (below9 (on HB.out HWq.out) HB.out.size _ _ _ _ _ _ _ _ _), Lib.hid (Kd.C_below HC.out (below9 HWq.out (Nat.le_refl _) _ _ _ _ _ _ _ _ _))⟩)
    case rest =>
      obtain ⟨gg, rfl, GK, SK, PK, HB, HC⟩ := hcut
      clear HSD HSL Hsc
      have hz8 : gs < wc.heap.size := blk_lt SK.out
      have hz9 : gp < wc.heap.size := blk_lt PK.out
      have hz10 : gg < wc.heap.size := blk_lt GK.out
      have e0 := blk_cell SK.out 0
      have e1 := blk_cell SK.out 1
      have e2 := blk_cell SK.out 2
      have e3 := blk_cell SK.out 3
      have p0 := blk_cell PK.out 0
      have p1 := blk_cell PK.out 1
      have p2 := blk_cell PK.out 2
      have p3 := blk_cell PK.out 3
      have p4 := blk_cell PK.out 4
      have p5 := blk_cell PK.out 5
      have g0 := blk_cell GK.out 0
      have g1 := blk_cell GK.out 1
      have g2 := blk_cell GK.out 2
      have g3 := blk_cell GK.out 3
      have g4 := blk_cell GK.out 4
      have g5 := blk_cell GK.out 5
      have g6 := blk_cell GK.out 6
      have g7 := blk_cell GK.out 7
      have g8 := blk_cell GK.out 8
      go_upto_region 20 with fail
      clear p0 p1 p2 p3 p4 p5
      clear g0 g1 g2 g3 g4 g5 g6 g7 g8
      go_wp2_with fail
      refine (HH.out _ _ _ HC.out Hc.out).mono ?_
      rintro e w9 ⟨rfl, hb⟩
      replace HB := Lib.hid (on HB.out hb)
      replace HC := Lib.hid (Kd.C_below HC.out hb)
      replace SK := Lib.hid (blk_below SK.out hb)
      replace PK := Lib.hid (blk_below PK.out hb)
      replace GK := Lib.hid (blk_below GK.out hb)
      clear hb
      clear e0 e1 e2 e3
      go_upto_region 21 with fail
      have hb := below_alloc (Below.refl w9.heap.size w9) (.cells #[.int .i64 er, .int .i64 k1, .int .i64 s1, .int .i32 v1, .int .i32 0, .int .i64 m1, .int .i64 0, .int .u32 0, .int .i32 0] 32)
      replace HB := Lib.hid (on HB.out hb)
      replace HC := Lib.hid (Kd.C_below HC.out hb)
      replace SK := Lib.hid (blk_below SK.out hb)
      replace PK := Lib.hid (blk_below PK.out hb)
      replace GK := Lib.hid (blk_below GK.out hb)
      have HK : Hid ((w9.alloc (.cells #[.int .i64 er, .int .i64 k1, .int .i64 s1, .int .i32 v1, .int .i32 0, .int .i64 m1, .int .i64 0, .int .u32 0, .int .i32 0] 32)).heap[w9.heap.size]? = some (.cells #[.int .i64 er, .int .i64 k1, .int .i64 s1, .int .i32 v1, .int .i32 0, .int .i64 m1, .int .i64 0, .int .u32 0, .int .i32 0] 32 (0, 0))) := Lib.hid (heap_alloc_new _ _)
      clear hb
      generalize w9.alloc (.cells #[.int .i64 er, .int .i64 k1, .int .i64 s1, .int .i32 v1, .int .i32 0, .int .i64 m1, .int .i64 0, .int .u32 0, .int .i32 0] 32) = w10 at *
      generalize w9.heap.size = gh at *
      have hz11 : gs < w10.heap.size := blk_lt SK.out
      have hz12 : gh < w10.heap.size := blk_lt HK.out
      clear hz8 hz9 hz10
      have h0 := blk_cell HK.out 0
      have h1 := blk_cell HK.out 1
      have h3 := blk_cell HK.out 3
      have e0 := blk_cell SK.out 0
      have e1 := blk_cell SK.out 1
      have e2 := blk_cell SK.out 2
      have e3 := blk_cell SK.out 3
      rcases HAG.out with hne | ⟨he, j, hk, hj, hsw⟩
      · clear HAG
        have hne2 : (er != 0) = true := by simp only [bne, hne, Bool.not_false]
        go_quiet (fail)
        go_wp2_with fail
        go_ret
        exact ⟨rfl, pw_below_drewN HB.out _⟩
      · clear HAG
        subst he hk
        have HS2 := set_at hsw
        clear hsw
        have hcv : ∀ W', Below w10.heap.size w10 W' → (convert 30 9 (.slice A j c)).run Try.prog W' = .ok (.string (strOfNums (l.take j))) W' := by
          intro W' hW'
          have h1 := Kd.C_take (m := j) (Kd.C_below HC.out hW') hj
          rw [List.length_take, Nat.min_eq_left hj] at h1
          exact Kd.C_string (P := Try.prog) Try.underlying30 Try.underlying5 Try.underlying9 h1
        have HCV := Lib.hid hcv
        clear hcv
        generalize strOfNums (l.take j) = T at *
        have hsl := take_at (A := A) j hj Hc.out
        have hjc : j ≤ c := Nat.le_trans hj Hc.out
        have i0 : (0 : Int) ≤ (j : Int) := by omega
        have i1 : (j : Int) ≤ (l.length : Int) := by omega
        have i2 : (j : Int) ≤ (c : Int) := by omega
        have HX : Hid (Below w10.heap.size w10 w10.drew) := Lib.hid (below_drew (Below.refl _ _))
        have SKd : Hid (w10.drew.heap[gs]? = some (.cells #[.int .i64 1, .int .i64 0, .int .u32 0, .int .i32 0] 24 (0, 0))) := Lib.hid SK.out
        have HKd : Hid (w10.drew.heap[gh]? = some (.cells #[.int .i64 0, .int .i64 j, .int .i64 s1, .int .i32 v1, .int .i32 0, .int .i64 m1, .int .i64 0, .int .u32 0, .int .i32 0] 32 (0, 0))) := Lib.hid HK.out
        go_region_held3 (fun w' => w'.cell? ⟨gs, 0, none⟩ = some (.int .i64 1) ∧ w'.cell? ⟨gs, 1, none⟩ = some (.int .i64 0) ∧ w'.cell? ⟨gs, 2, none⟩ = some (.int .u32 0) ∧ w'.cell? ⟨gs, 3, none⟩ = some (.int .i32 0) ∧ w'.cell? ⟨gh, 0, none⟩ = some (.int .i64 0) ∧ w'.cell? ⟨gh, 1, none⟩ = some (.int .i64 j) ∧ w'.cell? ⟨gh, 3, none⟩ = some (.int .i32 v1) ∧ (convert 30 9 (.slice A j c)).run Try.prog w' = .ok (.string T) w') (exact ⟨blk_cell SKd.out 0, blk_cell SKd.out 1, blk_cell SKd.out 2, blk_cell SKd.out 3, blk_cell HKd.out 0, blk_cell HKd.out 1, blk_cell HKd.out 3, HCV.out _ HX.out⟩) (first | (go_at_call 9; (with_reducible refine (HS2.out _).mono ?_); rintro e wa ⟨rfl, hb⟩; replace SKd := Lib.hid (blk_below SKd.out hb); replace HKd := Lib.hid (blk_below HKd.out hb); replace HX := Lib.hid (below_on HX.out HX.out.size hb); clear hb) | fail)
        all_goals
          go_wp2_with fail
          go_ret
          exact ⟨rfl, on HB.out HX.out⟩
theorem none_sw {K m n u : Int} {pairs marks low : Bool} (hk : shp K m = some (n, pairs, marks, low)) (hf : Fit marks m 0 0 0) (h : ¬ Scal u ∨ (n = 2 ∧ pairs = false ∧ 65535 < u)) : SW K m 0 0 0 u 11 [] 0 := .none n pairs marks low hk hf h
theorem wback_walk (w : World) (kind : Int) (_ : (Lit.int .i64 kind).wf = true) (mode : Int) (_ : (Lit.int .i64 mode).wf = true) (u : Int) (_ : (Lit.int .i32 u).wf = true) (a : Option Addr) (len cap : Nat) (zs : List Int) (h : (a = none ∧ len = 0 ∧ cap = 0 ∧ zs = []) ∨ ∃ x, a = some x ∧ len ≤ cap ∧ cap ≤ maxLen ∧ zs.length = cap ∧ (∀ i, i < zs.length → w.cell? (x.add i) = some (.int .u8 (zs.getD i 0))) ∧ ∀ n ∈ zs, (Lit.int .u8 n).wf = true)
    (hl : len * 1 ≤ 140737488351232) : Calls Try.prog 5 #[.int .i64 kind, .int .i64 mode, .int .i32 u, .slice a len cap] w fun e w' => e = .returned (.bool true) ∧ Below w.heap.size w w' := by
  obtain ⟨l, rfl, hC, hc, hb⟩ := open_row h
  have hlen : l.length ≤ 140737488351232 := by omega
  have hq0 : (0 : Int) ≤ (IntKind.u64.wrap kind).tmod 8 := Int.tmod_nonneg _ (wrap_u64_nonneg kind)
  have hq1 : (IntKind.u64.wrap kind).tmod 8 < 8 := Int.tmod_lt_of_pos _ (by omega)
  have hm0 : (0 : Int) ≤ (IntKind.u64.wrap mode).tmod 3 := Int.tmod_nonneg _ (wrap_u64_nonneg mode)
  have hm1 : (IntKind.u64.wrap mode).tmod 3 < 3 := Int.tmod_lt_of_pos _ (by omega)
  obtain ⟨q, hq⟩ : ∃ q, (IntKind.u64.wrap kind).tmod 8 = q := ⟨_, rfl⟩
  obtain ⟨m, hmode⟩ : ∃ m, (IntKind.u64.wrap mode).tmod 3 = m := ⟨_, rfl⟩
  rw [hq] at hq0 hq1
  rw [hmode] at hm0 hm1
  by_cases h25 : q = 2 ∨ q = 5
  · have hmm : m = 0 ∨ m = 1 ∨ m = 2 := by omega
    rcases h25 with rfl | rfl
    · by_cases hs : Scal u
      · rcases hmm with rfl | rfl | rfl
        · obtain ⟨mk, ub, hd⟩ := marked_ex (K := 5) (n := 2) (u := u) rfl rfl (.inl rfl) hs
          obtain ⟨e, k, s, v, m', hag⟩ := again_ex (K := 5) (m := 1) (l := l) (n := 2) (pairs := true) (marks := true) (low := false) rfl ⟨rfl, rfl, rfl, .inr ⟨rfl, .inl rfl⟩⟩ (by simp) hb
          exact back_mark_2 kind mode u a cap l w hC hc hb hlen hq hmode mk ub hd e k s v m' hag
        · obtain ⟨ub, hd⟩ := direct_ex (K := 5) (m := 1) (n := 2) (u := u) (pairs := true) (marks := true) (low := false) rfl ⟨rfl, rfl, rfl, .inr ⟨rfl, .inl rfl⟩⟩ (by simp) hs (by simp)
          obtain ⟨e, k, s, v, m', hag⟩ := again_ex (K := 5) (m := 1) (l := l) (n := 2) (pairs := true) (marks := true) (low := false) rfl ⟨rfl, rfl, rfl, .inr ⟨rfl, .inl rfl⟩⟩ (by simp) hb
          exact back_direct_2_1 kind mode u a cap l w hC hc hb hlen hq hmode ub hd e k s v m' hag
        · obtain ⟨ub, hd⟩ := direct_ex (K := 5) (m := 2) (n := 2) (u := u) (pairs := true) (marks := true) (low := true) rfl ⟨rfl, rfl, rfl, .inr ⟨rfl, .inr rfl⟩⟩ (by simp) hs (by simp)
          obtain ⟨e, k, s, v, m', hag⟩ := again_ex (K := 5) (m := 2) (l := l) (n := 2) (pairs := true) (marks := true) (low := true) rfl ⟨rfl, rfl, rfl, .inr ⟨rfl, .inr rfl⟩⟩ (by simp) hb
          exact back_direct_2_2 kind mode u a cap l w hC hc hb hlen hq hmode ub hd e k s v m' hag
      · rcases hmm with rfl | rfl | rfl
        · exact back_none_2_0 kind mode u a cap l w hC hc hb hlen hq hmode (none_sw (n := 2) (pairs := true) (marks := true) (low := false) rfl ⟨rfl, rfl, rfl, .inl rfl⟩ (.inl hs)) hs
        · exact back_none_2_1 kind mode u a cap l w hC hc hb hlen hq hmode (none_sw (n := 2) (pairs := true) (marks := true) (low := false) rfl ⟨rfl, rfl, rfl, .inr ⟨rfl, .inl rfl⟩⟩ (.inl hs)) hs
        · exact back_none_2_2 kind mode u a cap l w hC hc hb hlen hq hmode (none_sw (n := 2) (pairs := true) (marks := true) (low := true) rfl ⟨rfl, rfl, rfl, .inr ⟨rfl, .inr rfl⟩⟩ (.inl hs)) hs
    · by_cases hs : Scal u
      · rcases hmm with rfl | rfl | rfl
        · obtain ⟨mk, ub, hd⟩ := marked_ex (K := 8) (n := 4) (u := u) rfl rfl (.inr rfl) hs
          obtain ⟨e, k, s, v, m', hag⟩ := again_ex (K := 8) (m := 1) (l := l) (n := 4) (pairs := false) (marks := true) (low := false) rfl ⟨rfl, rfl, rfl, .inr ⟨rfl, .inl rfl⟩⟩ (by simp) hb
          exact back_mark_5 kind mode u a cap l w hC hc hb hlen hq hmode mk ub hd e k s v m' hag
        · obtain ⟨ub, hd⟩ := direct_ex (K := 8) (m := 1) (n := 4) (u := u) (pairs := false) (marks := true) (low := false) rfl ⟨rfl, rfl, rfl, .inr ⟨rfl, .inl rfl⟩⟩ (by simp) hs (by simp)
          obtain ⟨e, k, s, v, m', hag⟩ := again_ex (K := 8) (m := 1) (l := l) (n := 4) (pairs := false) (marks := true) (low := false) rfl ⟨rfl, rfl, rfl, .inr ⟨rfl, .inl rfl⟩⟩ (by simp) hb
          exact back_direct_5_1 kind mode u a cap l w hC hc hb hlen hq hmode ub hd e k s v m' hag
        · obtain ⟨ub, hd⟩ := direct_ex (K := 8) (m := 2) (n := 4) (u := u) (pairs := false) (marks := true) (low := true) rfl ⟨rfl, rfl, rfl, .inr ⟨rfl, .inr rfl⟩⟩ (by simp) hs (by simp)
          obtain ⟨e, k, s, v, m', hag⟩ := again_ex (K := 8) (m := 2) (l := l) (n := 4) (pairs := false) (marks := true) (low := true) rfl ⟨rfl, rfl, rfl, .inr ⟨rfl, .inr rfl⟩⟩ (by simp) hb
          exact back_direct_5_2 kind mode u a cap l w hC hc hb hlen hq hmode ub hd e k s v m' hag
      · rcases hmm with rfl | rfl | rfl
        · exact back_none_5_0 kind mode u a cap l w hC hc hb hlen hq hmode (none_sw (n := 4) (pairs := false) (marks := true) (low := false) rfl ⟨rfl, rfl, rfl, .inl rfl⟩ (.inl hs)) hs
        · exact back_none_5_1 kind mode u a cap l w hC hc hb hlen hq hmode (none_sw (n := 4) (pairs := false) (marks := true) (low := false) rfl ⟨rfl, rfl, rfl, .inr ⟨rfl, .inl rfl⟩⟩ (.inl hs)) hs
        · exact back_none_5_2 kind mode u a cap l w hC hc hb hlen hq hmode (none_sw (n := 4) (pairs := false) (marks := true) (low := true) rfl ⟨rfl, rfl, rfl, .inr ⟨rfl, .inr rfl⟩⟩ (.inl hs)) hs
  · have h5 : ((3 + q) == 5) = false := beq_eq_false_iff_ne.2 (by omega)
    have h8 : ((3 + q) == 8) = false := beq_eq_false_iff_ne.2 (by omega)
    obtain ⟨n, pairs, low, hk, h9⟩ : ∃ n pairs low, shp (3 + q) 0 = some (n, pairs, false, low) ∧ (n = 2 ∧ pairs = false → 9 ≤ 3 + q) := by
      rcases (show q = 0 ∨ q = 1 ∨ q = 3 ∨ q = 4 ∨ q = 6 ∨ q = 7 by omega) with rfl | rfl | rfl | rfl | rfl | rfl
      · exact ⟨2, true, false, rfl, by simp⟩
      · exact ⟨2, true, true, rfl, by simp⟩
      · exact ⟨4, false, false, rfl, by simp⟩
      · exact ⟨4, false, true, rfl, by simp⟩
      · exact ⟨2, false, false, rfl, by simp⟩
      · exact ⟨2, false, true, rfl, by simp⟩
    have hf : Fit false 0 0 0 0 := ⟨rfl, rfl, rfl, .inl rfl⟩
    by_cases hs : Scal u
    · by_cases hok : n = 2 ∧ pairs = false ∧ 65535 < u
      · exact back_none_q_0 kind mode u q a cap l w hC hc hb hlen hq hq0 (by omega) h5 h8 (none_sw hk hf (.inr hok)) (.inr ⟨hs, hok.2.2, h9 ⟨hok.1, hok.2.1⟩⟩)
      · obtain ⟨ub, hd⟩ := direct_ex hk hf (by simp) hs hok
        obtain ⟨e, k, s, v, m', hag⟩ := again_ex hk hf (by simp) hb
        exact back_direct_q_0 kind mode u q a cap l w hC hc hb hlen hq hq0 (by omega) h5 h8 ub hd e k s v m' hag
    · exact back_none_q_0 kind mode u q a cap l w hC hc hb hlen hq hq0 (by omega) h5 h8 (none_sw hk hf (.inl hs)) (.inl hs)
end Go.Proofs.Ytflmpdfcbdfabaa.Wd
