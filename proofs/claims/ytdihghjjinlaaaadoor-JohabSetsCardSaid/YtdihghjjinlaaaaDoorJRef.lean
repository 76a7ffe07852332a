/- The reference's Johab: parts and Set, walked. -/
import Derived.Test.YtdihghjjinlaaaaDoorJRefPack
namespace Go.Proofs.YtdihghjjinlaaaaDoor.J
open Go.RowKit Go.Proofs.YtdihghjjinlaaaaDoorW.PrintWords Go.Proofs.YtdihghjjinlaaaaDoorW.PrintLast Go.Proofs.YtdihghjjinlaaaaDoorW.PrintMore
open Go.Proofs.YtdihghjjinlaaaaDoor.PJohabPlain
set_option maxRecDepth 100000 in
theorem refPartsC {u : Int} (w : World) (h : 44032 ≤ u ∧ u ≤ 55203) : Calls Tryd.prog 25 #[.int .i32 u] w fun e w' => e = .returned (.tuple #[.int .i64 (fa u), .int .i64 (fb u), .int .i64 (fc u), .bool true]) ∧ Drawn0 w w' := by
  have e1 : (u - 44032) / 588 = fa u := rfl
  have e2 : (u - 44032) % 588 / 28 = fb u := by unfold fb; omega
  have e3 : (u - 44032) % 28 = fc u := rfl
  go_enter Tryd.func25, Tryd.ntmps25
  go_wp2_with fail
  refine bodyPost_ret (results_list (rs := [.tmp 2, .tmp 3, .tmp 4, .tmp 5]) rfl (by simp) (.tmp (.tmp (.tmp (.tmp .nil))))) rfl ?_
  exact ⟨by rw [← e1, ← e2, ← e3]; rfl, Drawn0.refl _⟩
set_option maxRecDepth 100000 in
theorem refPartsC_not {u : Int} (w : World) (hu : (Lit.int .i32 u).wf = true) (h : ¬ (44032 ≤ u ∧ u ≤ 55203)) : Calls Tryd.prog 25 #[.int .i32 u] w fun e w' => e = .returned (.tuple #[.int .i64 0, .int .i64 0, .int .i64 0, .bool false]) ∧ Drawn0 w w' := by
  have hb := bounds_i32 hu
  rcases (show u < 44032 ∨ (¬ u < 44032 ∧ 55203 < u) by omega) with c | ⟨c, d⟩
  · go_enter Tryd.func25, Tryd.ntmps25
    go_wp2_with fail
    refine bodyPost_ret (results_list (rs := [.tmp 2, .tmp 3, .tmp 4, .tmp 5]) rfl (by simp) (.tmp (.tmp (.tmp (.tmp .nil))))) rfl ?_
    exact ⟨rfl, Drawn0.refl _⟩
  · go_enter Tryd.func25, Tryd.ntmps25
    go_wp2_with fail
    refine bodyPost_ret (results_list (rs := [.tmp 2, .tmp 3, .tmp 4, .tmp 5]) rfl (by simp) (.tmp (.tmp (.tmp (.tmp .nil))))) rfl ?_
    exact ⟨rfl, Drawn0.refl _⟩
set_option maxRecDepth 100000 in
theorem refSet_won (w : World) : Calls Tryd.prog 14 #[.int .i32 8361] w fun e w' => e = .returned (put 0 ⟨#[92]⟩) ∧ Below w.heap.size w w' := by
  go_enter Tryd.func14, Tryd.ntmps14
  go_wp2_with fail
  refine bodyPost_ret (results_cell_row rfl _ _ w.heap.size 32 #[.int .i64 0, .string ⟨#[92]⟩, .int .i64 0, .int .i64 0, .int .u32 0, .int .i32 0] (0, 0) _ rfl (heap_alloc_new _ _) Tryd.underlying32 rfl (by kernel_rfl)) rfl ?_
  exact ⟨rfl, below_alloc (Below.refl _ _) _⟩
set_option maxRecDepth 100000 in
theorem refSet_low (u : Int) (w : World) (h0 : 0 ≤ u) (h1 : u < 128) (h2 : u ≠ 92) : Calls Tryd.prog 14 #[.int .i32 u] w fun e w' => e = .returned (put 0 (strOfNums [u])) ∧ Below w.heap.size w w' := by
  have n1 : ((u : Int) == 8361) = false := beq_eq_false_iff_ne.2 (by omega)
  have n2 : ((u : Int) != 92) = true := by rw [bne_iff_ne]; exact h2
  have n3 : u % 256 = u := by omega
  have hcv : ∀ X : Obj, (convert 35 9 (.slice (some ⟨w.heap.size + 1, 0, none⟩) 1 1)).run Tryd.prog ((w.alloc X).alloc (.cells #[.int .u8 u] 5)) = .ok (.string (strOfNums [u])) ((w.alloc X).alloc (.cells #[.int .u8 u] 5)) := fun X => by
    have h := lit_str (w.alloc X) [u] (by simp)
    rw [show (w.alloc X).heap.size = w.heap.size + 1 by simp] at h
    exact h
  go_enter Tryd.func14, Tryd.ntmps14
  go_wp2_with fail
  refine bodyPost_ret (results_cell_row rfl _ _ w.heap.size 32 #[.int .i64 0, .string (strOfNums [u]), .int .i64 0, .int .i64 0, .int .u32 0, .int .i32 0] (0, 0) _ rfl (((below_alloc (Below.refl _ (w.alloc _)) _).block w.heap.size (by simp)).trans (heap_alloc_new _ _)) Tryd.underlying32 rfl (by kernel_rfl)) rfl ?_
  exact ⟨rfl, below_alloc (below_alloc (Below.refl _ _) _) _⟩
set_option maxRecDepth 100000 in
theorem refSet_syl (u : Int) (w : World) (h : 44032 ≤ u ∧ u ≤ 55203) : Calls Tryd.prog 14 #[.int .i32 u] w fun e w' => e = .returned (put 0 (strOfNums [code (fa u) (fb u) (fc u) / 256, code (fa u) (fb u) (fc u) % 256])) ∧ Below w.heap.size w w' := by
  have n1 : ((u : Int) == 8361) = false := beq_eq_false_iff_ne.2 (by omega)
  have HP := Lib.hid h
  have HO := Lib.hid (parts_ok h)
  obtain ⟨m, hm⟩ : ∃ m, m = code (fa u) (fb u) (fc u) := ⟨_, rfl⟩
  have hmb := code_bd HO.out
  rw [← hm] at hmb
  rw [← hm]
  have HM := Lib.hid hm
  clear hm
  go_enter Tryd.func14, Tryd.ntmps14
  go_wp2_with fail
  refine (refPartsC _ HP.out).mono ?_
  rintro e w1 ⟨rfl, hd1⟩
  obtain ⟨⟨m1, rfl⟩⟩ := hd1
  go_wp2_with fail
  refine (refPackC _ HO.out).mono ?_
  rintro e w2 ⟨rfl, hb2⟩
  rw [← HM.out]
  have hsz : w.heap.size < w2.heap.size := by
    have := hb2.size
    simp at this
    omega
  have BK0 : w2.heap[w.heap.size]? = some (.cells #[.int .i64 0, .string ⟨#[]⟩, .int .i64 0, .int .i64 0, .int .u32 0, .int .i32 0] 32 (0, 0)) := (hb2.block _ (by simp)).trans (heap_alloc_new _ _)
  have BK : (w2.alloc (.cells #[.int .u8 (m / 256), .int .u8 (m % 256)] 5)).heap[w.heap.size]? = some (.cells #[.int .i64 0, .string ⟨#[]⟩, .int .i64 0, .int .i64 0, .int .u32 0, .int .i32 0] 32 (0, 0)) := ((below_alloc (Below.refl _ w2) _).block _ hsz).trans BK0
  have hcv : (convert 35 9 (.slice (some ⟨w2.heap.size, 0, none⟩) 2 2)).run Tryd.prog (w2.alloc (.cells #[.int .u8 (m / 256), .int .u8 (m % 256)] 5)) = .ok (.string (strOfNums [m / 256, m % 256])) (w2.alloc (.cells #[.int .u8 (m / 256), .int .u8 (m % 256)] 5)) := lit_str w2 [m / 256, m % 256] (by simp)
  have HB2 : Hid (Below w.heap.size w (w2.alloc (.cells #[.int .u8 (m / 256), .int .u8 (m % 256)] 5))) := below_alloc (below_then (pw_below_drewN (below_alloc (Below.refl _ _) _) _) (by simp) hb2) _
  obtain ⟨W, hW⟩ : ∃ W, W = w2.alloc (.cells #[.int .u8 (m / 256), .int .u8 (m % 256)] 5) := ⟨_, rfl⟩
  rw [← hW] at BK hcv HB2
  have HBK := Lib.hid BK
  have e0 := blk_cell BK 0
  have e1 := blk_cell BK 1
  have e2 := blk_cell BK 2
  have e3 := blk_cell BK 3
  have e4 := blk_cell BK 4
  have e5 := blk_cell BK 5
  have f0 := blk_frozen BK 0
  have f1 := blk_frozen BK 1
  have f2 := blk_frozen BK 2
  have f3 := blk_frozen BK 3
  have f4 := blk_frozen BK 4
  have f5 := blk_frozen BK 5
  have hW2 := hW.symm
  clear BK BK0 hb2 hW
  go_wp2_with fail
  refine bodyPost_ret (results_cell_row rfl _ _ w.heap.size 32 _ (0, 0) _ rfl (put6 HBK.out _ _ _ _ _ _) Tryd.underlying32 rfl (by kernel_rfl)) rfl ?_
  exact ⟨rfl, below6 HB2.out (Nat.le_refl _) _ _ _ _ _ _⟩
set_option maxRecDepth 100000 in
theorem refSet_none (u : Int) (w : World) (hu : (Lit.int .i32 u).wf = true) (h : ¬ (44032 ≤ u ∧ u ≤ 55203)) (h1 : u ≠ 8361) (h2 : ¬ (0 ≤ u ∧ u < 128 ∧ u ≠ 92)) : Calls Tryd.prog 14 #[.int .i32 u] w fun e w' => e = .returned (put 11 ⟨#[]⟩) ∧ Below w.heap.size w w' := by
  have n1 : ((u : Int) == 8361) = false := beq_eq_false_iff_ne.2 h1
  have HP := Lib.hid h
  have HU := Lib.hid hu
  rcases (show u < 0 ∨ u = 92 ∨ 128 ≤ u by omega) with c | c | c
  · go_enter Tryd.func14, Tryd.ntmps14
    go_wp2_with fail
    refine (refPartsC_not _ HU.out HP.out).mono ?_
    rintro e w1 ⟨rfl, hd1⟩
    obtain ⟨⟨m1, rfl⟩⟩ := hd1
    go_wp2_with fail
    refine bodyPost_ret (results_cell_row rfl _ _ w.heap.size 32 _ (0, 0) _ rfl (put6 (((pw_below_drewN (Below.refl (w.heap.size + 1) (w.alloc _)) m1).block w.heap.size (by omega)).trans (heap_alloc_new _ _)) _ _ _ _ _ _) Tryd.underlying32 rfl (by kernel_rfl)) rfl ?_
    exact ⟨rfl, below6 (pw_below_drewN (below_alloc (Below.refl _ _) _) _) (Nat.le_refl _) _ _ _ _ _ _⟩
  · subst c
    go_enter Tryd.func14, Tryd.ntmps14
    go_wp2_with fail
    refine (refPartsC_not _ HU.out HP.out).mono ?_
    rintro e w1 ⟨rfl, hd1⟩
    obtain ⟨⟨m1, rfl⟩⟩ := hd1
    go_wp2_with fail
    refine bodyPost_ret (results_cell_row rfl _ _ w.heap.size 32 _ (0, 0) _ rfl (put6 (((pw_below_drewN (Below.refl (w.heap.size + 1) (w.alloc _)) m1).block w.heap.size (by omega)).trans (heap_alloc_new _ _)) _ _ _ _ _ _) Tryd.underlying32 rfl (by kernel_rfl)) rfl ?_
    exact ⟨rfl, below6 (pw_below_drewN (below_alloc (Below.refl _ _) _) _) (Nat.le_refl _) _ _ _ _ _ _⟩
  · go_enter Tryd.func14, Tryd.ntmps14
    go_wp2_with fail
    refine (refPartsC_not _ HU.out HP.out).mono ?_
    rintro e w1 ⟨rfl, hd1⟩
    obtain ⟨⟨m1, rfl⟩⟩ := hd1
    go_wp2_with fail
    refine bodyPost_ret (results_cell_row rfl _ _ w.heap.size 32 _ (0, 0) _ rfl (put6 (((pw_below_drewN (Below.refl (w.heap.size + 1) (w.alloc _)) m1).block w.heap.size (by omega)).trans (heap_alloc_new _ _)) _ _ _ _ _ _) Tryd.underlying32 rfl (by kernel_rfl)) rfl ?_
    exact ⟨rfl, below6 (pw_below_drewN (below_alloc (Below.refl _ _) _) _) (Nat.le_refl _) _ _ _ _ _ _⟩
set_option maxRecDepth 100000 in
theorem sets_walk (w : World) (ht : Tab w) (u : Int) (hu : (Lit.int .i32 u).wf = true) : Calls Tryd.prog 4 #[.int .i32 u] w fun e w' => e = .returned (.bool true) ∧ Below w.heap.size w w' := by
  have key : ∀ (x : Int) (s : ByteArray), (∀ W, Tab W → Calls Tryd.prog 13 #[.int .i32 u] W fun e w' => e = .returned (put x s) ∧ Below W.heap.size W w') → (∀ W, Calls Tryd.prog 14 #[.int .i32 u] W fun e w' => e = .returned (put x s) ∧ Below W.heap.size W w') → Calls Tryd.prog 4 #[.int .i32 u] w fun e w' => e = .returned (.bool true) ∧ Below w.heap.size w w' := by
    intro x s h1 h2
    have HT := Lib.hid ht
    have H1 := Lib.hid h1
    have H2 := Lib.hid h2
    clear ht h1 h2
    go_enter Tryd.func4, Tryd.ntmps4
    go_wp2_with fail
    refine (H1.out _ HT.out).mono ?_
    rintro e w1 ⟨rfl, hb1⟩
    have HB1 : Hid (Below w.heap.size w w1) := hb1
    clear hb1
    go_wp2_with fail
    refine (H2.out _).mono ?_
    rintro e w2 ⟨rfl, hb2⟩
    have HB2 : Hid (Below w.heap.size w w2) := on HB1.out hb2
    clear hb2
    go_wp2_with fail
    go_ret
    exact ⟨rfl, HB2.out⟩
  by_cases c1 : u = 8361
  · subst c1
    exact key _ _ (fun W _ => set_won W) (fun W => refSet_won W)
  · by_cases c2 : 0 ≤ u ∧ u < 128 ∧ u ≠ 92
    · exact key _ _ (fun W _ => set_low u W c2.1 c2.2.1 c2.2.2) (fun W => refSet_low u W c2.1 c2.2.1 c2.2.2)
    · by_cases c3 : 44032 ≤ u ∧ u ≤ 55203
      · exact key _ _ (fun W h => set_syl u W c3 h) (fun W => refSet_syl u W c3)
      · exact key _ _ (fun W _ => set_none u W hu c3 c1 c2) (fun W => refSet_none u W hu c3 c1 c2)
end Go.Proofs.YtdihghjjinlaaaaDoor.J
