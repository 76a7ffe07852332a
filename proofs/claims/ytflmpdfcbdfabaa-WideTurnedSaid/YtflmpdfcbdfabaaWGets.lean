/- WideGets, walked: what the program gets of any bytes is what the document gets. No condition. -/
import Derived.Test.YtflmpdfcbdfabaaWu
import Derived.Deep.RegionHeld3
import Derived.Deep.DrawnRows
namespace Go.Proofs.Ytflmpdfcbdfabaa.Wd
open Go.RowKit Go.Proofs.YtflmpdfcbdfabaaW.PrintWords Go.Proofs.YtflmpdfcbdfabaaW.PrintLast Go.Proofs.YtflmpdfcbdfabaaW.PrintMore
attribute [local go_sem ↓] Go.wp_at_zero Go.wp_at_succ
theorem open_row {w : World} {a : Option Addr} {len cap : Nat} {zs : List Int} (h : (a = none ∧ len = 0 ∧ cap = 0 ∧ zs = []) ∨ ∃ x, a = some x ∧ len ≤ cap ∧ cap ≤ maxLen ∧ zs.length = cap ∧ (∀ i, i < zs.length → w.cell? (x.add i) = some (.int .u8 (zs.getD i 0))) ∧ ∀ n ∈ zs, (Lit.int .u8 n).wf = true) :
    ∃ l : List Int, len = l.length ∧ Kd.C (Kd.int .u8) w a l.length l ∧ l.length ≤ cap ∧ ∀ x ∈ l, Byte x := by
  obtain ⟨l, h1, h2, _, h4, h5⟩ := ReadsInt.ofRowC h
  refine ⟨l, h1, Kd.C_of_reads (d := (0 : Int)) h2, h5, fun x hx => ?_⟩
  have := bounds_u8 (h4 x hx)
  unfold Byte
  omega
theorem own_at0 (W : World) (n : Nat) (h : W.heap.size = n) : (W.alloc (.cells #[] 5)).ownsRow n 5 1 (.slice (some ⟨n, 0, none⟩) 0 0) ([] : List Int).length (nums .u8 []) := by
  subst h
  exact own_lit W W.heap.size 5 .u8 [] (Nat.le_refl _) (by simp)
theorem below_on {B : Nat} {w W W1 : World} (h : Below B w W) (hB : B ≤ W.heap.size) (k : Below W.heap.size W W1) : Below B w W1 := below_then h hB k
theorem rhasAny (kind : Int) (w : World) : Calls Try.prog 14 #[.int .i64 kind] w fun e w' => e = .returned (.bool (shp kind 0).isSome) ∧ Drawn0 w w' := by
  rcases h : shp kind 0 with _ | ⟨n, pairs, marks, low⟩
  · exact rhasC_not w h
  · exact rhasC w h
theorem own_row {W : World} {B : Nat} {v : Value} {l : List Int} (h : W.ownsRow B 5 1 v l.length (nums .u8 l)) : ∃ A c, v = .slice A l.length c ∧ Kd.C (Kd.int .u8) W A l.length l ∧ l.length ≤ c := by
  obtain ⟨A, c, rfl, hr⟩ := own_reads h
  exact ⟨A, c, rfl, Kd.C_of_reads (d := (0 : Int)) hr, own_le h⟩
set_option maxHeartbeats 2000000 in
set_option maxRecDepth 100000 in
theorem wgets_at (kind mode bits acc held : Int) (A : Option Addr) (c : Nat) (l : List Int) (w : World) (hC : Kd.C (Kd.int .u8) w A l.length l) (hc : l.length ≤ c) (hb : ∀ x ∈ l, Byte x) (hlen : l.length ≤ 140737488351232) :
    Calls Try.prog 4 #[.int .i64 kind, .agg #[.int .i64 mode, .int .i64 bits, .int .u32 acc, .int .i32 held], .slice A l.length c] w fun e w' => e = .returned (.bool true) ∧ Below w.heap.size w w' := by
  obtain ⟨e, k, s, u, m, h⟩ := gw_ex kind mode bits acc held l
  have H1 : Hid (∀ W A c, Kd.C (Kd.int .u8) W A l.length l → l.length ≤ c → Calls Try.prog 11 #[.int .i64 kind, .agg #[.int .i64 mode, .int .i64 bits, .int .u32 acc, .int .i32 held], .slice A l.length c] W fun en w' => en = .returned (gotV e k s u m) ∧ Below W.heap.size W w') := Lib.hid (fun W A c hC hc => getC W hC hc hb h)
  have H2 : Hid (∀ W A c, Kd.C (Kd.int .u8) W A l.length l → l.length ≤ c → Calls Try.prog 12 #[.int .i64 kind, .agg #[.int .i64 mode, .int .i64 bits, .int .u32 acc, .int .i32 held], .slice A l.length c] W fun en w' => en = .returned (gotV e k s u m) ∧ Below W.heap.size W w') := Lib.hid (fun W A c hC hc => rgetC W hC hc hb h)
  have H3 := Lib.hid (fun W => hasC kind W)
  have H4 := Lib.hid (fun W => rhasAny kind W)
  generalize (shp kind 0).isSome = q at *
  unfold gotV at H1 H2
  have HC := Lib.hid hC
  have Hc := Lib.hid hc
  clear h hC hc hb
  go_enter Try.func4, Try.ntmps4
  go_upto_region 2 with (at_builtin; refine print_append_row (w.heap.size + 1) rfl (.tmp 8) (.tmp 9) 30 5 .u8 1 rfl Try.underlying30 info5 (by omega) (.slice (some ⟨w.heap.size + 1, 0, none⟩) 0 0) [] l A l.length c rfl rfl (own_at0 (w.alloc (.cells #[.int .i64 mode, .int .i64 bits, .int .u32 acc, .int .i32 held] 24)) (w.heap.size + 1) (by simp)) (Kd.reads_of_C (enc := Value.int .u8) (d := (0 : Int)) (h1 := fun _ => rfl) (Kd.C_below HC.out (below_alloc (below_alloc (Below.refl _ _) _) _))) (Below.refl (w.heap.size + 1) ((w.alloc (.cells #[.int .i64 mode, .int .i64 bits, .int .u32 acc, .int .i32 held] 24)).alloc (.cells #[] 5))) (by simp) (by simp; omega) ?_; intro v1 w1 hown1 hb1 hg1 hat1; clear hg1 hat1; have HO1 : Hid (w1.ownsRow (w.heap.size + 1) 5 1 v1 l.length (nums .u8 l)) := hown1; have HB1 := Lib.hid hb1; clear hown1 hb1)
  obtain ⟨A1, c1, rfl, hC1, hc1⟩ := own_row HO1.out
  have BK : Hid (w1.drew.heap[w.heap.size]? = some (.cells #[.int .i64 mode, .int .i64 bits, .int .u32 acc, .int .i32 held] 24 (0, 0))) := Lib.hid ((HB1.out.block w.heap.size (by omega)).trans (blk_alloc (heap_alloc_new _ _) _))
  have HZ : Hid (Below w.heap.size w w1) := Lib.hid ((below_alloc (below_alloc (Below.refl _ _) _) _).trans (HB1.out.mono (by omega)))
  have HX : Hid (Below w1.heap.size w1 w1.drew) := Lib.hid (below_drew (Below.refl _ _))
  have HC1 := Lib.hid hC1
  have Hc1 := Lib.hid hc1
  have HCW := Lib.hid (Kd.C_below HC.out HZ.out)
  clear hC1 hc1 HO1 HB1
  have HV1 : Hid (∀ W, Below w1.heap.size w1 W → (convert 30 9 (.slice A1 l.length c1)).run Try.prog W = .ok (.string (strOfNums l)) W) := Lib.hid (fun W hW => Kd.C_string (P := Try.prog) Try.underlying30 Try.underlying5 Try.underlying9 (Kd.C_below HC1.out hW))
  have HV2 : Hid (∀ W, Below w1.heap.size w1 W → (convert 30 9 (.slice A l.length c)).run Try.prog W = .ok (.string (strOfNums l)) W) := Lib.hid (fun W hW => Kd.C_string (P := Try.prog) Try.underlying30 Try.underlying5 Try.underlying9 (Kd.C_below HCW.out hW))
  generalize strOfNums l = S at *
  have d0 := blk_cell BK.out 0
  have d1 := blk_cell BK.out 1
  have d2 := blk_cell BK.out 2
  have d3 := blk_cell BK.out 3
  go_region_held3 (fun w' => w'.cell? ⟨w.heap.size, 0, none⟩ = some (.int .i64 mode) ∧ w'.cell? ⟨w.heap.size, 1, none⟩ = some (.int .i64 bits) ∧ w'.cell? ⟨w.heap.size, 2, none⟩ = some (.int .u32 acc) ∧ w'.cell? ⟨w.heap.size, 3, none⟩ = some (.int .i32 held) ∧ (convert 30 9 (.slice A1 l.length c1)).run Try.prog w' = .ok (.string S) w' ∧ (convert 30 9 (.slice A l.length c)).run Try.prog w' = .ok (.string S) w') (exact ⟨blk_cell BK.out 0, blk_cell BK.out 1, blk_cell BK.out 2, blk_cell BK.out 3, HV1.out _ HX.out, HV2.out _ HX.out⟩) (first | (go_at_call 11; (with_reducible refine (H1.out _ _ _ (Kd.C_below HC1.out HX.out) Hc1.out).mono ?_); rintro e wa ⟨rfl, hb⟩; replace BK := Lib.hid (blk_below BK.out hb); replace HX := Lib.hid (below_on HX.out HX.out.size hb); clear hb) | (go_at_call 12; (with_reducible refine (H2.out _ _ _ (Kd.C_below HCW.out HX.out) Hc.out).mono ?_); rintro e wa ⟨rfl, hb⟩; replace BK := Lib.hid (blk_below BK.out hb); replace HX := Lib.hid (below_on HX.out HX.out.size hb); clear hb) | (go_at_call 13; (with_reducible refine (H3.out _).mono ?_); rintro e wa ⟨rfl, hb⟩; replace BK := Lib.hid (blk_below BK.out hb); replace HX := Lib.hid (below_on HX.out HX.out.size hb); clear hb) | (go_at_call 14; (with_reducible refine (H4.out _).mono ?_); rintro e wa ⟨rfl, hd⟩; have hb := hd.below; clear hd; replace BK := Lib.hid (blk_below BK.out hb); replace HX := Lib.hid (below_on HX.out HX.out.size hb); clear hb) | fail)
  all_goals
    go_wp2_with fail
    go_ret
    exact ⟨rfl, on HZ.out HX.out⟩
theorem wgets_walk (w : World) (kind : Int) (_ : (Lit.int .i64 kind).wf = true) (mode bits acc held : Int) (_ : (Lit.int .i64 mode).wf = true) (_ : (Lit.int .i64 bits).wf = true) (_ : (Lit.int .u32 acc).wf = true) (_ : (Lit.int .i32 held).wf = true) (a : Option Addr) (len cap : Nat) (zs : List Int) (h : (a = none ∧ len = 0 ∧ cap = 0 ∧ zs = []) ∨ ∃ x, a = some x ∧ len ≤ cap ∧ cap ≤ maxLen ∧ zs.length = cap ∧ (∀ i, i < zs.length → w.cell? (x.add i) = some (.int .u8 (zs.getD i 0))) ∧ ∀ n ∈ zs, (Lit.int .u8 n).wf = true)
    (hl : len * 1 ≤ 140737488351232) : Calls Try.prog 4 #[.int .i64 kind, .agg #[.int .i64 mode, .int .i64 bits, .int .u32 acc, .int .i32 held], .slice a len cap] w fun e w' => e = .returned (.bool true) ∧ Below w.heap.size w w' := by
  obtain ⟨l, rfl, hC, hc, hb⟩ := open_row h
  exact wgets_at kind mode bits acc held a cap l w hC hc hb (by omega)
end Go.Proofs.Ytflmpdfcbdfabaa.Wd
