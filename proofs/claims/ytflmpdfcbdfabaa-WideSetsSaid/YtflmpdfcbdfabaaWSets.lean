/- WideSets, walked: what the program writes of a number is what the document writes. No condition. -/
import Derived.Test.YtflmpdfcbdfabaaWy
namespace Go.Proofs.Ytflmpdfcbdfabaa.Wd
open Go.RowKit Go.Proofs.YtflmpdfcbdfabaaW.PrintWords Go.Proofs.YtflmpdfcbdfabaaW.PrintLast Go.Proofs.YtflmpdfcbdfabaaW.PrintMore
attribute [local go_sem ↓] Go.wp_at_zero Go.wp_at_succ
set_option maxHeartbeats 2000000 in
set_option maxRecDepth 100000 in
theorem wsets_walk (w : World) (kind : Int) (_ : (Lit.int .i64 kind).wf = true) (mode bits acc held : Int) (_ : (Lit.int .i64 mode).wf = true) (_ : (Lit.int .i64 bits).wf = true) (_ : (Lit.int .u32 acc).wf = true) (_ : (Lit.int .i32 held).wf = true) (u : Int) (_ : (Lit.int .i32 u).wf = true) :
    Calls Try.prog 3 #[.int .i64 kind, .agg #[.int .i64 mode, .int .i64 bits, .int .u32 acc, .int .i32 held], .int .i32 u] w fun e w' => e = .returned (.bool true) ∧ Below w.heap.size w w' := by
  obtain ⟨e, b, m, h⟩ := sw_ex kind mode bits acc held u
  have H1 := Lib.hid (fun W => setC W h)
  have H2 := Lib.hid (fun W => rsetC W h)
  unfold stV putV at H1 H2
  generalize strOfNums b = S at *
  clear h
  go_enter Try.func3, Try.ntmps3
  go_wp2_with fail
  have BK : Hid ((w.alloc (.cells #[.int .i64 mode, .int .i64 bits, .int .u32 acc, .int .i32 held] 24)).drew.heap[w.heap.size]? = some (.cells #[.int .i64 mode, .int .i64 bits, .int .u32 acc, .int .i32 held] 24 (0, 0))) := Lib.hid (heap_alloc_new _ _)
  have HX : Hid (Below w.heap.size w (w.alloc (.cells #[.int .i64 mode, .int .i64 bits, .int .u32 acc, .int .i32 held] 24)).drew) := Lib.hid (below_drew (below_alloc (Below.refl _ _) _))
  have d0 := blk_cell BK.out 0
  have d1 := blk_cell BK.out 1
  have d2 := blk_cell BK.out 2
  have d3 := blk_cell BK.out 3
  go_region_held3 (fun w' => w'.cell? ⟨w.heap.size, 0, none⟩ = some (.int .i64 mode) ∧ w'.cell? ⟨w.heap.size, 1, none⟩ = some (.int .i64 bits) ∧ w'.cell? ⟨w.heap.size, 2, none⟩ = some (.int .u32 acc) ∧ w'.cell? ⟨w.heap.size, 3, none⟩ = some (.int .i32 held)) (first | (with_reducible exact ⟨d0, d1, d2, d3⟩) | exact ⟨blk_cell BK.out 0, blk_cell BK.out 1, blk_cell BK.out 2, blk_cell BK.out 3⟩) (first | (go_at_call 9; (with_reducible refine (H1.out _).mono ?_); rintro e wa ⟨rfl, hb⟩; replace BK := Lib.hid (blk_below BK.out hb); replace HX := Lib.hid (on HX.out hb); clear hb) | (go_at_call 10; (with_reducible refine (H2.out _).mono ?_); rintro e wb ⟨rfl, hb⟩; replace BK := Lib.hid (blk_below BK.out hb); replace HX := Lib.hid (on HX.out hb); clear hb) | fail)
  all_goals
    go_wp2_with fail
    go_ret
    exact ⟨rfl, HX.out⟩
end Go.Proofs.Ytflmpdfcbdfabaa.Wd
