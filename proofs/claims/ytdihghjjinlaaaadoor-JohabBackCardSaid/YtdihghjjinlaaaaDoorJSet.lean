/- johab.Set, walked. -/
import Derived.Test.YtdihghjjinlaaaaDoorJ
namespace Go.Proofs.YtdihghjjinlaaaaDoor.J
open Go.RowKit Go.Proofs.YtdihghjjinlaaaaDoorW.PrintWords Go.Proofs.YtdihghjjinlaaaaDoorW.PrintLast Go.Proofs.YtdihghjjinlaaaaDoorW.PrintMore
open Go.Proofs.YtdihghjjinlaaaaDoor.PJohabPlain
def fa (u : Int) : Int := (u - 44032) / 588
def fb (u : Int) : Int := (u - 44032) / 28 % 21
def fc (u : Int) : Int := (u - 44032) % 28
theorem parts_ok {u : Int} (h : 44032 ≤ u ∧ u ≤ 55203) : Ok (fa u) (fb u) (fc u) := by
  unfold Ok fa fb fc
  omega
theorem parts_is {u : Int} (h : 44032 ≤ u ∧ u ≤ 55203) : ksc_Parts.f u = some (fa u, fb u, fc u, true) := by
  have w1 : wrap64 u = u := by unfold wrap64; omega
  have w2 : wrap64 (u - 44032) = u - 44032 := by unfold wrap64; omega
  obtain ⟨x, hx⟩ : ∃ x, x = u - 44032 := ⟨_, rfl⟩
  have e1 : Int.tdiv (u - 44032) 28 = (u - 44032) / 28 := Int.tdiv_eq_ediv_of_nonneg (by omega)
  have w3 : wrap64 ((u - 44032) / 28) = (u - 44032) / 28 := by unfold wrap64; omega
  have e2 : Int.tdiv ((u - 44032) / 28) 21 = (u - 44032) / 28 / 21 := Int.tdiv_eq_ediv_of_nonneg (by omega)
  have w4 : wrap64 ((u - 44032) / 28 / 21) = (u - 44032) / 28 / 21 := by unfold wrap64; omega
  have e3 : Int.tmod ((u - 44032) / 28) 21 = (u - 44032) / 28 % 21 := Int.tmod_eq_emod_of_nonneg (by omega)
  have e4 : Int.tmod (u - 44032) 28 = (u - 44032) % 28 := Int.tmod_eq_emod_of_nonneg (by omega)
  unfold ksc_Parts.f
  rw [w1, w2, if_neg (by omega), if_neg (by omega), e1, w3, e2, w4, e3, e4]
  have : (u - 44032) / 28 / 21 = fa u := by unfold fa; omega
  rw [this]
  rfl
theorem parts_not {u : Int} (hu : (Lit.int .i32 u).wf = true) (h : ¬ (44032 ≤ u ∧ u ≤ 55203)) : ksc_Parts.f u = some (0, 0, 0, false) := by
  have hb := bounds_i32 hu
  have w1 : wrap64 u = u := by unfold wrap64; omega
  have w2 : wrap64 (u - 44032) = u - 44032 := by unfold wrap64; omega
  unfold ksc_Parts.f
  rw [w1, w2]
  by_cases h1 : u - 44032 < 0
  · rw [if_pos h1]
  · rw [if_neg h1, if_pos (by omega)]
theorem code_bd {a b c : Int} (h : Ok a b c) : 32768 ≤ code a b c ∧ code a b c < 65536 := by
  obtain ⟨⟨a1, a2⟩, ⟨b1, b2⟩, c1, c2⟩ := h
  obtain ⟨j, rfl⟩ := Int.eq_ofNat_of_zero_le b1
  obtain ⟨l, rfl⟩ := Int.eq_ofNat_of_zero_le c1
  have m := mid_bd j (by omega)
  have n := las_bd l (by omega)
  unfold code
  omega
abbrev put (e : Int) (s : ByteArray) : Value := .agg #[.int .i64 e, .string s, .int .i64 0, .int .i64 0, .int .u32 0, .int .i32 0]
theorem lit_str (w : World) (l : List Int) (hl : l.length ≤ 1000) : (convert 35 9 (.slice (some ⟨w.heap.size, 0, none⟩) l.length l.length)).run Tryd.prog (w.alloc (.cells (nums .u8 l).toArray 5)) = .ok (.string (strOfNums l)) (w.alloc (.cells (nums .u8 l).toArray 5)) :=
  own_string (P := Tryd.prog) (dst := 9) Tryd.underlying35 Tryd.underlying5 Tryd.underlying9 (own_lit w 0 5 .u8 l (Nat.zero_le _) (by omega))
/-- A block of six cells, stored cell by cell. -/
theorem put6 {w : World} {g : Nat} {t : TypeId} {o0 o1 o2 o3 o4 o5 : Value} (h : w.heap[g]? = some (.cells #[o0, o1, o2, o3, o4, o5] t (0, 0))) (a0 a1 a2 a3 a4 a5 : Value) :
    ((((((w.setCell ⟨g, 0, none⟩ a0).setCell ⟨g, 1, none⟩ a1).setCell ⟨g, 2, none⟩ a2).setCell ⟨g, 3, none⟩ a3).setCell ⟨g, 4, none⟩ a4).setCell ⟨g, 5, none⟩ a5).heap[g]? = some (.cells #[a0, a1, a2, a3, a4, a5] t (0, 0)) :=
  blk_set (blk_set (blk_set (blk_set (blk_set (blk_set h 0 a0) 1 a1) 2 a2) 3 a3) 4 a4) 5 a5
theorem below6 {B : Nat} {w0 w : World} (h : Below B w0 w) {g : Nat} (hg : B ≤ g) (a0 a1 a2 a3 a4 a5 : Value) :
    Below B w0 ((((((w.setCell ⟨g, 0, none⟩ a0).setCell ⟨g, 1, none⟩ a1).setCell ⟨g, 2, none⟩ a2).setCell ⟨g, 3, none⟩ a3).setCell ⟨g, 4, none⟩ a4).setCell ⟨g, 5, none⟩ a5) :=
  (((((h.setCell (p := ⟨g, 0, none⟩) hg a0).setCell (p := ⟨g, 1, none⟩) hg a1).setCell (p := ⟨g, 2, none⟩) hg a2).setCell (p := ⟨g, 3, none⟩) hg a3).setCell (p := ⟨g, 4, none⟩) hg a4).setCell (p := ⟨g, 5, none⟩) hg a5
set_option maxRecDepth 100000 in
theorem set_won (w : World) : Calls Tryd.prog 13 #[.int .i32 8361] w fun e w' => e = .returned (put 0 ⟨#[92]⟩) ∧ Below w.heap.size w w' := by
  go_enter Tryd.func13, Tryd.ntmps13
  go_wp2_with fail
  refine bodyPost_ret (results_cell_row rfl _ _ w.heap.size 32 #[.int .i64 0, .string ⟨#[92]⟩, .int .i64 0, .int .i64 0, .int .u32 0, .int .i32 0] (0, 0) _ rfl (heap_alloc_new _ _) Tryd.underlying32 rfl (by kernel_rfl)) rfl ?_
  exact ⟨rfl, below_alloc (Below.refl _ _) _⟩
set_option maxRecDepth 100000 in
theorem set_low (u : Int) (w : World) (h0 : 0 ≤ u) (h1 : u < 128) (h2 : u ≠ 92) : Calls Tryd.prog 13 #[.int .i32 u] w fun e w' => e = .returned (put 0 (strOfNums [u])) ∧ Below w.heap.size w w' := by
  have n1 : ((u : Int) == 8361) = false := beq_eq_false_iff_ne.2 (by omega)
  have n2 : ((u : Int) != 92) = true := by rw [bne_iff_ne]; exact h2
  have n3 : u % 256 = u := by omega
  have hcv : ∀ X : Obj, (convert 35 9 (.slice (some ⟨w.heap.size + 1, 0, none⟩) 1 1)).run Tryd.prog ((w.alloc X).alloc (.cells #[.int .u8 u] 5)) = .ok (.string (strOfNums [u])) ((w.alloc X).alloc (.cells #[.int .u8 u] 5)) := fun X => by
    have h := lit_str (w.alloc X) [u] (by simp)
    rw [show (w.alloc X).heap.size = w.heap.size + 1 by simp] at h
    exact h
  go_enter Tryd.func13, Tryd.ntmps13
  go_wp2_with fail
  refine bodyPost_ret (results_cell_row rfl _ _ w.heap.size 32 #[.int .i64 0, .string (strOfNums [u]), .int .i64 0, .int .i64 0, .int .u32 0, .int .i32 0] (0, 0) _ rfl (((below_alloc (Below.refl _ (w.alloc _)) _).block w.heap.size (by simp)).trans (heap_alloc_new _ _)) Tryd.underlying32 rfl (by kernel_rfl)) rfl ?_
  exact ⟨rfl, below_alloc (below_alloc (Below.refl _ _) _) _⟩
set_option maxRecDepth 100000 in
theorem set_syl (u : Int) (w : World) (h : 44032 ≤ u ∧ u ≤ 55203) (ht : Tab w) : Calls Tryd.prog 13 #[.int .i32 u] w fun e w' => e = .returned (put 0 (strOfNums [code (fa u) (fb u) (fc u) / 256, code (fa u) (fb u) (fc u) % 256])) ∧ Below w.heap.size w w' := by
  have n1 : ((u : Int) == 8361) = false := beq_eq_false_iff_ne.2 (by omega)
  have HP := Lib.hid (parts_is h)
  have HO := Lib.hid (parts_ok h)
  have HT := Lib.hid ht
  obtain ⟨m, hm⟩ : ∃ m, m = code (fa u) (fb u) (fc u) := ⟨_, rfl⟩
  have hmb := code_bd HO.out
  rw [← hm] at hmb
  rw [← hm]
  have HM := Lib.hid hm
  clear ht hm
  go_enter Tryd.func13, Tryd.ntmps13
  go_wp2_with fail
  refine (ksc_Parts.calls u _ _ _ _ _ HP.out).mono ?_
  rintro e w1 ⟨rfl, hd1⟩
  obtain ⟨⟨m1, rfl⟩⟩ := hd1
  go_wp2_with fail
  refine (packC _ (HT.out.below (pw_below_drewN (below_alloc (Below.refl _ _) _) _)) HO.out).mono ?_
  rintro e w2 ⟨rfl, hb2⟩
  rw [← HM.out]
  have hsz : w.heap.size < w2.heap.size := by
    have := hb2.size
    simp at this
    omega
  have BK0 : w2.heap[w.heap.size]? = some (.cells #[.int .i64 0, .string ⟨#[]⟩, .int .i64 0, .int .i64 0, .int .u32 0, .int .i32 0] 32 (0, 0)) := (hb2.block _ (by simp)).trans (heap_alloc_new _ _)
  have BK : (w2.alloc (.cells #[.int .u8 (m / 256), .int .u8 (m % 256)] 5)).heap[w.heap.size]? = some (.cells #[.int .i64 0, .string ⟨#[]⟩, .int .i64 0, .int .i64 0, .int .u32 0, .int .i32 0] 32 (0, 0)) := ((below_alloc (Below.refl _ w2) _).block _ hsz).trans BK0
  have hcv : (convert 35 9 (.slice (some ⟨w2.heap.size, 0, none⟩) 2 2)).run Tryd.prog (w2.alloc (.cells #[.int .u8 (m / 256), .int .u8 (m % 256)] 5)) = .ok (.string (strOfNums [m / 256, m % 256])) (w2.alloc (.cells #[.int .u8 (m / 256), .int .u8 (m % 256)] 5)) := lit_str w2 [m / 256, m % 256] (by simp)
  have HB2 : Hid (Below w.heap.size w (w2.alloc (.cells #[.int .u8 (m / 256), .int .u8 (m % 256)] 5))) := below_alloc (below_then (pw_below_drewN (below_alloc (Below.refl _ _) _) _) (by simp) hb2) _
  obtain ⟨W, hW⟩ : ∃ W, W = w2.alloc (.cells #[.int .u8 (m / 256), .int .u8 (m % 256)] 5) := ⟨_, rfl⟩
  rw [← hW] at BK hcv HB2
  have HBK := Lib.hid BK
  have e0 := blk_cell BK 0
  have e1 := blk_cell BK 1
  have e2 := blk_cell BK 2
  have e3 := blk_cell BK 3
  have e4 := blk_cell BK 4
  have e5 := blk_cell BK 5
  have f0 := blk_frozen BK 0
  have f1 := blk_frozen BK 1
  have f2 := blk_frozen BK 2
  have f3 := blk_frozen BK 3
  have f4 := blk_frozen BK 4
  have f5 := blk_frozen BK 5
  have hW2 := hW.symm
  clear BK BK0 hb2 hW
  go_wp2_with fail
  refine bodyPost_ret (results_cell_row rfl _ _ w.heap.size 32 _ (0, 0) _ rfl (put6 HBK.out _ _ _ _ _ _) Tryd.underlying32 rfl (by kernel_rfl)) rfl ?_
  exact ⟨rfl, below6 HB2.out (Nat.le_refl _) _ _ _ _ _ _⟩
set_option maxRecDepth 100000 in
theorem set_none (u : Int) (w : World) (hu : (Lit.int .i32 u).wf = true) (h : ¬ (44032 ≤ u ∧ u ≤ 55203)) (h1 : u ≠ 8361) (h2 : ¬ (0 ≤ u ∧ u < 128 ∧ u ≠ 92)) : Calls Tryd.prog 13 #[.int .i32 u] w fun e w' => e = .returned (put 11 ⟨#[]⟩) ∧ Below w.heap.size w w' := by
  have n1 : ((u : Int) == 8361) = false := beq_eq_false_iff_ne.2 h1
  have HP := Lib.hid (parts_not hu h)
  rcases (show u < 0 ∨ u = 92 ∨ 128 ≤ u by omega) with c | c | c
  · go_enter Tryd.func13, Tryd.ntmps13
    go_wp2_with fail
    refine (ksc_Parts.calls u _ _ _ _ _ HP.out).mono ?_
    rintro e w1 ⟨rfl, hd1⟩
    obtain ⟨⟨m1, rfl⟩⟩ := hd1
    go_wp2_with fail
    refine bodyPost_ret (results_cell_row rfl _ _ w.heap.size 32 _ (0, 0) _ rfl (put6 (((pw_below_drewN (Below.refl (w.heap.size + 1) (w.alloc _)) m1).block w.heap.size (by omega)).trans (heap_alloc_new _ _)) _ _ _ _ _ _) Tryd.underlying32 rfl (by kernel_rfl)) rfl ?_
    exact ⟨rfl, below6 (pw_below_drewN (below_alloc (Below.refl _ _) _) _) (Nat.le_refl _) _ _ _ _ _ _⟩
  · subst c
    go_enter Tryd.func13, Tryd.ntmps13
    go_wp2_with fail
    refine (ksc_Parts.calls 92 _ _ _ _ _ HP.out).mono ?_
    rintro e w1 ⟨rfl, hd1⟩
    obtain ⟨⟨m1, rfl⟩⟩ := hd1
    go_wp2_with fail
    refine bodyPost_ret (results_cell_row rfl _ _ w.heap.size 32 _ (0, 0) _ rfl (put6 (((pw_below_drewN (Below.refl (w.heap.size + 1) (w.alloc _)) m1).block w.heap.size (by omega)).trans (heap_alloc_new _ _)) _ _ _ _ _ _) Tryd.underlying32 rfl (by kernel_rfl)) rfl ?_
    exact ⟨rfl, below6 (pw_below_drewN (below_alloc (Below.refl _ _) _) _) (Nat.le_refl _) _ _ _ _ _ _⟩
  · go_enter Tryd.func13, Tryd.ntmps13
    go_wp2_with fail
    refine (ksc_Parts.calls u _ _ _ _ _ HP.out).mono ?_
    rintro e w1 ⟨rfl, hd1⟩
    obtain ⟨⟨m1, rfl⟩⟩ := hd1
    go_wp2_with fail
    refine bodyPost_ret (results_cell_row rfl _ _ w.heap.size 32 _ (0, 0) _ rfl (put6 (((pw_below_drewN (Below.refl (w.heap.size + 1) (w.alloc _)) m1).block w.heap.size (by omega)).trans (heap_alloc_new _ _)) _ _ _ _ _ _) Tryd.underlying32 rfl (by kernel_rfl)) rfl ?_
    exact ⟨rfl, below6 (pw_below_drewN (below_alloc (Below.refl _ _) _) _) (Nat.le_refl _) _ _ _ _ _ _⟩
end Go.Proofs.YtdihghjjinlaaaaDoor.J
