/- A kind's shape, walked. -/
import Derived.Test.YtflmpdfcbdfabaaWc
import Derived.Outline
import Derived.Laws.EntriesVeiled
namespace Go.Proofs.Ytflmpdfcbdfabaa.Wd
open Go.RowKit Go.Proofs.YtflmpdfcbdfabaaW.PrintWords Go.Proofs.YtflmpdfcbdfabaaW.PrintLast Go.Proofs.YtflmpdfcbdfabaaW.PrintMore
set_option maxRecDepth 100000 in
theorem bigC (w : World) : Calls Try.prog 27 #[] w fun e w' => e = .returned (.agg #[.func (.func 34) #[] #[], .func (.func 35) #[] #[]]) ∧ Below w.heap.size w w' := by
  go_enter Try.func27, Try.ntmps27
  go_wp2_with fail
  refine bodyPost_ret (results_cell_row rfl _ _ w.heap.size 46 #[.func (.func 34) #[] #[], .func (.func 35) #[] #[]] (0, 0) _ rfl (heap_alloc_new _ _) Try.underlying46 rfl (by kernel_rfl)) rfl ?_
  exact ⟨rfl, below_alloc (Below.refl _ _) _⟩
set_option maxRecDepth 100000 in
theorem littleC (w : World) : Calls Try.prog 28 #[] w fun e w' => e = .returned (.agg #[.func (.func 36) #[] #[], .func (.func 37) #[] #[]]) ∧ Below w.heap.size w w' := by
  go_enter Try.func28, Try.ntmps28
  go_wp2_with fail
  refine bodyPost_ret (results_cell_row rfl _ _ w.heap.size 46 #[.func (.func 36) #[] #[], .func (.func 37) #[] #[]] (0, 0) _ rfl (heap_alloc_new _ _) Try.underlying46 rfl (by kernel_rfl)) rfl ?_
  exact ⟨rfl, below_alloc (Below.refl _ _) _⟩
def fN (low : Bool) : Value := if low then .func (.func 36) #[] #[] else .func (.func 34) #[] #[]
def fS (low : Bool) : Value := if low then .func (.func 37) #[] #[] else .func (.func 35) #[] #[]
def shV (n : Int) (pairs marks low : Bool) : Value := .agg #[.int .i64 n, .bool pairs, .bool marks, fN low, fS low]
theorem shp3 (mode : Int) : shp 3 mode = some (2, true, false, false) := rfl
theorem put5 {w : World} {g : Nat} {t : TypeId} {o0 o1 o2 o3 o4 : Value} (h : w.heap[g]? = some (.cells #[o0, o1, o2, o3, o4] t (0, 0))) (a0 a1 a2 a3 a4 : Value) :
    (((((w.setCell ⟨g, 0, none⟩ a0).setCell ⟨g, 1, none⟩ a1).setCell ⟨g, 2, none⟩ a2).setCell ⟨g, 3, none⟩ a3).setCell ⟨g, 4, none⟩ a4).heap[g]? = some (.cells #[a0, a1, a2, a3, a4] t (0, 0)) :=
  blk_set (blk_set (blk_set (blk_set (blk_set h 0 a0) 1 a1) 2 a2) 3 a3) 4 a4
theorem below5 {B : Nat} {w0 w : World} (h : Below B w0 w) {g : Nat} (hg : B ≤ g) (a0 a1 a2 a3 a4 : Value) :
    Below B w0 (((((w.setCell ⟨g, 0, none⟩ a0).setCell ⟨g, 1, none⟩ a1).setCell ⟨g, 2, none⟩ a2).setCell ⟨g, 3, none⟩ a3).setCell ⟨g, 4, none⟩ a4) :=
  ((((h.setCell (p := ⟨g, 0, none⟩) hg a0).setCell (p := ⟨g, 1, none⟩) hg a1).setCell (p := ⟨g, 2, none⟩) hg a2).setCell (p := ⟨g, 3, none⟩) hg a3).setCell (p := ⟨g, 4, none⟩) hg a4
set_option maxRecDepth 100000 in
theorem shape3 (mode : Int) (w : World) : Calls Try.prog 17 #[.int .i64 3, .int .i64 mode] w fun e w' => e = .returned (.tuple #[shV 2 true false false, .bool true]) ∧ Below w.heap.size w w' := by
  go_enter Try.func17, Try.ntmps17
  go_wp2_with fail
  refine (bigC _).mono ?_
  rintro e w1 ⟨rfl, hb⟩
  have BK : w1.heap[w.heap.size]? = some (.cells #[.int .i64 0, .bool false, .bool false, .nilFunc, .nilFunc] 48 (0, 0)) := (hb.block _ (by simp)).trans (heap_alloc_new _ _)
  have hlt : w.heap.size < w1.heap.size := blk_lt BK
  have e0 : w1.cell? ⟨w.heap.size, 0, none⟩ = _ := blk_cell BK 0
  have ef0 : w1.frozen? ⟨w.heap.size, 0, none⟩ = false := blk_frozen BK 0
  have e1 : w1.cell? ⟨w.heap.size, 1, none⟩ = _ := blk_cell BK 1
  have ef1 : w1.frozen? ⟨w.heap.size, 1, none⟩ = false := blk_frozen BK 1
  have e2 : w1.cell? ⟨w.heap.size, 2, none⟩ = _ := blk_cell BK 2
  have ef2 : w1.frozen? ⟨w.heap.size, 2, none⟩ = false := blk_frozen BK 2
  have e3 : w1.cell? ⟨w.heap.size, 3, none⟩ = _ := blk_cell BK 3
  have ef3 : w1.frozen? ⟨w.heap.size, 3, none⟩ = false := blk_frozen BK 3
  have e4 : w1.cell? ⟨w.heap.size, 4, none⟩ = _ := blk_cell BK 4
  have ef4 : w1.frozen? ⟨w.heap.size, 4, none⟩ = false := blk_frozen BK 4
  have HB := Lib.hid hb
  have HBK := Lib.hid BK
  clear hb BK
  go_wp2_with fail
  refine bodyPost_ret (results_ct rfl _ _ w.heap.size 48 _ (0, 0) _ rfl (blk_alloc (put5 HBK.out _ _ _ _ _) _) Try.underlying48 rfl (by kernel_rfl)) rfl ?_
  exact ⟨rfl, below_alloc (below5 (below_then (below_alloc (Below.refl _ _) _) (by simp) HB.out) (Nat.le_refl _) _ _ _ _ _) _⟩
set_option maxRecDepth 100000 in
theorem shape6 (mode : Int) (w : World) : Calls Try.prog 17 #[.int .i64 6, .int .i64 mode] w fun e w' => e = .returned (.tuple #[shV 4 false false false, .bool true]) ∧ Below w.heap.size w w' := by
  go_enter Try.func17, Try.ntmps17
  go_wp2_with fail
  refine (bigC _).mono ?_
  rintro e w1 ⟨rfl, hb⟩
  have BK : w1.heap[w.heap.size]? = some (.cells #[.int .i64 0, .bool false, .bool false, .nilFunc, .nilFunc] 48 (0, 0)) := (hb.block _ (by simp)).trans (heap_alloc_new _ _)
  have hlt : w.heap.size < w1.heap.size := blk_lt BK
  have e0 : w1.cell? ⟨w.heap.size, 0, none⟩ = _ := blk_cell BK 0
  have ef0 : w1.frozen? ⟨w.heap.size, 0, none⟩ = false := blk_frozen BK 0
  have e1 : w1.cell? ⟨w.heap.size, 1, none⟩ = _ := blk_cell BK 1
  have ef1 : w1.frozen? ⟨w.heap.size, 1, none⟩ = false := blk_frozen BK 1
  have e2 : w1.cell? ⟨w.heap.size, 2, none⟩ = _ := blk_cell BK 2
  have ef2 : w1.frozen? ⟨w.heap.size, 2, none⟩ = false := blk_frozen BK 2
  have e3 : w1.cell? ⟨w.heap.size, 3, none⟩ = _ := blk_cell BK 3
  have ef3 : w1.frozen? ⟨w.heap.size, 3, none⟩ = false := blk_frozen BK 3
  have e4 : w1.cell? ⟨w.heap.size, 4, none⟩ = _ := blk_cell BK 4
  have ef4 : w1.frozen? ⟨w.heap.size, 4, none⟩ = false := blk_frozen BK 4
  have HB := Lib.hid hb
  have HBK := Lib.hid BK
  clear hb BK
  go_wp2_with fail
  refine bodyPost_ret (results_ct rfl _ _ w.heap.size 48 _ (0, 0) _ rfl (blk_alloc (put5 HBK.out _ _ _ _ _) _) Try.underlying48 rfl (by kernel_rfl)) rfl ?_
  exact ⟨rfl, below_alloc (below5 (below_then (below_alloc (Below.refl _ _) _) (by simp) HB.out) (Nat.le_refl _) _ _ _ _ _) _⟩
set_option maxRecDepth 100000 in
theorem shape9 (mode : Int) (w : World) : Calls Try.prog 17 #[.int .i64 9, .int .i64 mode] w fun e w' => e = .returned (.tuple #[shV 2 false false false, .bool true]) ∧ Below w.heap.size w w' := by
  go_enter Try.func17, Try.ntmps17
  go_wp2_with fail
  refine (bigC _).mono ?_
  rintro e w1 ⟨rfl, hb⟩
  have BK : w1.heap[w.heap.size]? = some (.cells #[.int .i64 0, .bool false, .bool false, .nilFunc, .nilFunc] 48 (0, 0)) := (hb.block _ (by simp)).trans (heap_alloc_new _ _)
  have hlt : w.heap.size < w1.heap.size := blk_lt BK
  have e0 : w1.cell? ⟨w.heap.size, 0, none⟩ = _ := blk_cell BK 0
  have ef0 : w1.frozen? ⟨w.heap.size, 0, none⟩ = false := blk_frozen BK 0
  have e1 : w1.cell? ⟨w.heap.size, 1, none⟩ = _ := blk_cell BK 1
  have ef1 : w1.frozen? ⟨w.heap.size, 1, none⟩ = false := blk_frozen BK 1
  have e2 : w1.cell? ⟨w.heap.size, 2, none⟩ = _ := blk_cell BK 2
  have ef2 : w1.frozen? ⟨w.heap.size, 2, none⟩ = false := blk_frozen BK 2
  have e3 : w1.cell? ⟨w.heap.size, 3, none⟩ = _ := blk_cell BK 3
  have ef3 : w1.frozen? ⟨w.heap.size, 3, none⟩ = false := blk_frozen BK 3
  have e4 : w1.cell? ⟨w.heap.size, 4, none⟩ = _ := blk_cell BK 4
  have ef4 : w1.frozen? ⟨w.heap.size, 4, none⟩ = false := blk_frozen BK 4
  have HB := Lib.hid hb
  have HBK := Lib.hid BK
  clear hb BK
  go_wp2_with fail
  refine bodyPost_ret (results_ct rfl _ _ w.heap.size 48 _ (0, 0) _ rfl (blk_alloc (put5 HBK.out _ _ _ _ _) _) Try.underlying48 rfl (by kernel_rfl)) rfl ?_
  exact ⟨rfl, below_alloc (below5 (below_then (below_alloc (Below.refl _ _) _) (by simp) HB.out) (Nat.le_refl _) _ _ _ _ _) _⟩
set_option maxRecDepth 100000 in
theorem shape4 (mode : Int) (w : World) : Calls Try.prog 17 #[.int .i64 4, .int .i64 mode] w fun e w' => e = .returned (.tuple #[shV 2 true false true, .bool true]) ∧ Below w.heap.size w w' := by
  go_enter Try.func17, Try.ntmps17
  go_wp2_with fail
  refine (bigC _).mono ?_
  rintro e w1 ⟨rfl, hb⟩
  have BK : w1.heap[w.heap.size]? = some (.cells #[.int .i64 0, .bool false, .bool false, .nilFunc, .nilFunc] 48 (0, 0)) := (hb.block _ (by simp)).trans (heap_alloc_new _ _)
  have hlt : w.heap.size < w1.heap.size := blk_lt BK
  have HB : Hid (Below w.heap.size w w1) := below_then (below_alloc (Below.refl _ _) _) (by simp) hb
  have HBK := Lib.hid BK
  clear hb BK
  go_wp2_with fail
  refine (littleC _).mono ?_
  rintro e w2 ⟨rfl, hb2⟩
  have SK : w2.heap[w1.heap.size]? = some (.cells #[.int .i64 2, .bool true, .bool false, .func (.func 34) #[] #[], .func (.func 35) #[] #[]] 48 (0, 0)) := (hb2.block _ (by simp)).trans (heap_alloc_new _ _)
  have BK2 : w2.heap[w.heap.size]? = some (.cells #[.int .i64 0, .bool false, .bool false, .nilFunc, .nilFunc] 48 (0, 0)) := (hb2.block _ (by simp; omega)).trans (blk_alloc HBK.out _)
  have hn1 : ¬ w.heap.size = w1.heap.size := by omega
  have hn2 : ¬ w1.heap.size = w.heap.size := by omega
  have e0 : w2.cell? ⟨w.heap.size, 0, none⟩ = _ := blk_cell BK2 0
  have ef0 : w2.frozen? ⟨w.heap.size, 0, none⟩ = false := blk_frozen BK2 0
  have e1 : w2.cell? ⟨w.heap.size, 1, none⟩ = _ := blk_cell BK2 1
  have ef1 : w2.frozen? ⟨w.heap.size, 1, none⟩ = false := blk_frozen BK2 1
  have e2 : w2.cell? ⟨w.heap.size, 2, none⟩ = _ := blk_cell BK2 2
  have ef2 : w2.frozen? ⟨w.heap.size, 2, none⟩ = false := blk_frozen BK2 2
  have e3 : w2.cell? ⟨w.heap.size, 3, none⟩ = _ := blk_cell BK2 3
  have ef3 : w2.frozen? ⟨w.heap.size, 3, none⟩ = false := blk_frozen BK2 3
  have e4 : w2.cell? ⟨w.heap.size, 4, none⟩ = _ := blk_cell BK2 4
  have ef4 : w2.frozen? ⟨w.heap.size, 4, none⟩ = false := blk_frozen BK2 4
  have s0 : w2.cell? ⟨w1.heap.size, 0, none⟩ = _ := blk_cell SK 0
  have sf0 : w2.frozen? ⟨w1.heap.size, 0, none⟩ = false := blk_frozen SK 0
  have s1 : w2.cell? ⟨w1.heap.size, 1, none⟩ = _ := blk_cell SK 1
  have sf1 : w2.frozen? ⟨w1.heap.size, 1, none⟩ = false := blk_frozen SK 1
  have s2 : w2.cell? ⟨w1.heap.size, 2, none⟩ = _ := blk_cell SK 2
  have sf2 : w2.frozen? ⟨w1.heap.size, 2, none⟩ = false := blk_frozen SK 2
  have s3 : w2.cell? ⟨w1.heap.size, 3, none⟩ = _ := blk_cell SK 3
  have sf3 : w2.frozen? ⟨w1.heap.size, 3, none⟩ = false := blk_frozen SK 3
  have s4 : w2.cell? ⟨w1.heap.size, 4, none⟩ = _ := blk_cell SK 4
  have sf4 : w2.frozen? ⟨w1.heap.size, 4, none⟩ = false := blk_frozen SK 4
  have HB2 : Hid (Below w.heap.size w w2) := on (below_alloc HB.out _) hb2
  have HBK2 := Lib.hid BK2
  have HSK := Lib.hid SK
  have Hlt := Lib.hid hlt
  clear hb2 BK2 SK HB HBK
  go_wp2_with fail
  refine bodyPost_ret (results_ct rfl _ _ w.heap.size 48 _ (0, 0) _ rfl (put5 (blk_far (blk_far HBK2.out hn1 _) hn1 _) _ _ _ _ _) Try.underlying48 rfl (by kernel_rfl)) rfl ?_
  exact ⟨rfl, below5 ((HB2.out.setCell (p := ⟨w1.heap.size, 3, none⟩) (Nat.le_of_lt Hlt.out) _).setCell (p := ⟨w1.heap.size, 4, none⟩) (Nat.le_of_lt Hlt.out) _) (Nat.le_refl _) _ _ _ _ _⟩
set_option maxRecDepth 100000 in
theorem shape7 (mode : Int) (w : World) : Calls Try.prog 17 #[.int .i64 7, .int .i64 mode] w fun e w' => e = .returned (.tuple #[shV 4 false false true, .bool true]) ∧ Below w.heap.size w w' := by
  go_enter Try.func17, Try.ntmps17
  go_wp2_with fail
  refine (bigC _).mono ?_
  rintro e w1 ⟨rfl, hb⟩
  have BK : w1.heap[w.heap.size]? = some (.cells #[.int .i64 0, .bool false, .bool false, .nilFunc, .nilFunc] 48 (0, 0)) := (hb.block _ (by simp)).trans (heap_alloc_new _ _)
  have hlt : w.heap.size < w1.heap.size := blk_lt BK
  have HB : Hid (Below w.heap.size w w1) := below_then (below_alloc (Below.refl _ _) _) (by simp) hb
  have HBK := Lib.hid BK
  clear hb BK
  go_wp2_with fail
  refine (littleC _).mono ?_
  rintro e w2 ⟨rfl, hb2⟩
  have SK : w2.heap[w1.heap.size]? = some (.cells #[.int .i64 4, .bool false, .bool false, .func (.func 34) #[] #[], .func (.func 35) #[] #[]] 48 (0, 0)) := (hb2.block _ (by simp)).trans (heap_alloc_new _ _)
  have BK2 : w2.heap[w.heap.size]? = some (.cells #[.int .i64 0, .bool false, .bool false, .nilFunc, .nilFunc] 48 (0, 0)) := (hb2.block _ (by simp; omega)).trans (blk_alloc HBK.out _)
  have hn1 : ¬ w.heap.size = w1.heap.size := by omega
  have hn2 : ¬ w1.heap.size = w.heap.size := by omega
  have e0 : w2.cell? ⟨w.heap.size, 0, none⟩ = _ := blk_cell BK2 0
  have ef0 : w2.frozen? ⟨w.heap.size, 0, none⟩ = false := blk_frozen BK2 0
  have e1 : w2.cell? ⟨w.heap.size, 1, none⟩ = _ := blk_cell BK2 1
  have ef1 : w2.frozen? ⟨w.heap.size, 1, none⟩ = false := blk_frozen BK2 1
  have e2 : w2.cell? ⟨w.heap.size, 2, none⟩ = _ := blk_cell BK2 2
  have ef2 : w2.frozen? ⟨w.heap.size, 2, none⟩ = false := blk_frozen BK2 2
  have e3 : w2.cell? ⟨w.heap.size, 3, none⟩ = _ := blk_cell BK2 3
  have ef3 : w2.frozen? ⟨w.heap.size, 3, none⟩ = false := blk_frozen BK2 3
  have e4 : w2.cell? ⟨w.heap.size, 4, none⟩ = _ := blk_cell BK2 4
  have ef4 : w2.frozen? ⟨w.heap.size, 4, none⟩ = false := blk_frozen BK2 4
  have s0 : w2.cell? ⟨w1.heap.size, 0, none⟩ = _ := blk_cell SK 0
  have sf0 : w2.frozen? ⟨w1.heap.size, 0, none⟩ = false := blk_frozen SK 0
  have s1 : w2.cell? ⟨w1.heap.size, 1, none⟩ = _ := blk_cell SK 1
  have sf1 : w2.frozen? ⟨w1.heap.size, 1, none⟩ = false := blk_frozen SK 1
  have s2 : w2.cell? ⟨w1.heap.size, 2, none⟩ = _ := blk_cell SK 2
  have sf2 : w2.frozen? ⟨w1.heap.size, 2, none⟩ = false := blk_frozen SK 2
  have s3 : w2.cell? ⟨w1.heap.size, 3, none⟩ = _ := blk_cell SK 3
  have sf3 : w2.frozen? ⟨w1.heap.size, 3, none⟩ = false := blk_frozen SK 3
  have s4 : w2.cell? ⟨w1.heap.size, 4, none⟩ = _ := blk_cell SK 4
  have sf4 : w2.frozen? ⟨w1.heap.size, 4, none⟩ = false := blk_frozen SK 4
  have HB2 : Hid (Below w.heap.size w w2) := on (below_alloc HB.out _) hb2
  have HBK2 := Lib.hid BK2
  have HSK := Lib.hid SK
  have Hlt := Lib.hid hlt
  clear hb2 BK2 SK HB HBK
  go_wp2_with fail
  refine bodyPost_ret (results_ct rfl _ _ w.heap.size 48 _ (0, 0) _ rfl (put5 (blk_far (blk_far HBK2.out hn1 _) hn1 _) _ _ _ _ _) Try.underlying48 rfl (by kernel_rfl)) rfl ?_
  exact ⟨rfl, below5 ((HB2.out.setCell (p := ⟨w1.heap.size, 3, none⟩) (Nat.le_of_lt Hlt.out) _).setCell (p := ⟨w1.heap.size, 4, none⟩) (Nat.le_of_lt Hlt.out) _) (Nat.le_refl _) _ _ _ _ _⟩
set_option maxRecDepth 100000 in
theorem shape10 (mode : Int) (w : World) : Calls Try.prog 17 #[.int .i64 10, .int .i64 mode] w fun e w' => e = .returned (.tuple #[shV 2 false false true, .bool true]) ∧ Below w.heap.size w w' := by
  go_enter Try.func17, Try.ntmps17
  go_wp2_with fail
  refine (bigC _).mono ?_
  rintro e w1 ⟨rfl, hb⟩
  have BK : w1.heap[w.heap.size]? = some (.cells #[.int .i64 0, .bool false, .bool false, .nilFunc, .nilFunc] 48 (0, 0)) := (hb.block _ (by simp)).trans (heap_alloc_new _ _)
  have hlt : w.heap.size < w1.heap.size := blk_lt BK
  have HB : Hid (Below w.heap.size w w1) := below_then (below_alloc (Below.refl _ _) _) (by simp) hb
  have HBK := Lib.hid BK
  clear hb BK
  go_wp2_with fail
  refine (littleC _).mono ?_
  rintro e w2 ⟨rfl, hb2⟩
  have SK : w2.heap[w1.heap.size]? = some (.cells #[.int .i64 2, .bool false, .bool false, .func (.func 34) #[] #[], .func (.func 35) #[] #[]] 48 (0, 0)) := (hb2.block _ (by simp)).trans (heap_alloc_new _ _)
  have BK2 : w2.heap[w.heap.size]? = some (.cells #[.int .i64 0, .bool false, .bool false, .nilFunc, .nilFunc] 48 (0, 0)) := (hb2.block _ (by simp; omega)).trans (blk_alloc HBK.out _)
  have hn1 : ¬ w.heap.size = w1.heap.size := by omega
  have hn2 : ¬ w1.heap.size = w.heap.size := by omega
  have e0 : w2.cell? ⟨w.heap.size, 0, none⟩ = _ := blk_cell BK2 0
  have ef0 : w2.frozen? ⟨w.heap.size, 0, none⟩ = false := blk_frozen BK2 0
  have e1 : w2.cell? ⟨w.heap.size, 1, none⟩ = _ := blk_cell BK2 1
  have ef1 : w2.frozen? ⟨w.heap.size, 1, none⟩ = false := blk_frozen BK2 1
  have e2 : w2.cell? ⟨w.heap.size, 2, none⟩ = _ := blk_cell BK2 2
  have ef2 : w2.frozen? ⟨w.heap.size, 2, none⟩ = false := blk_frozen BK2 2
  have e3 : w2.cell? ⟨w.heap.size, 3, none⟩ = _ := blk_cell BK2 3
  have ef3 : w2.frozen? ⟨w.heap.size, 3, none⟩ = false := blk_frozen BK2 3
  have e4 : w2.cell? ⟨w.heap.size, 4, none⟩ = _ := blk_cell BK2 4
  have ef4 : w2.frozen? ⟨w.heap.size, 4, none⟩ = false := blk_frozen BK2 4
  have s0 : w2.cell? ⟨w1.heap.size, 0, none⟩ = _ := blk_cell SK 0
  have sf0 : w2.frozen? ⟨w1.heap.size, 0, none⟩ = false := blk_frozen SK 0
  have s1 : w2.cell? ⟨w1.heap.size, 1, none⟩ = _ := blk_cell SK 1
  have sf1 : w2.frozen? ⟨w1.heap.size, 1, none⟩ = false := blk_frozen SK 1
  have s2 : w2.cell? ⟨w1.heap.size, 2, none⟩ = _ := blk_cell SK 2
  have sf2 : w2.frozen? ⟨w1.heap.size, 2, none⟩ = false := blk_frozen SK 2
  have s3 : w2.cell? ⟨w1.heap.size, 3, none⟩ = _ := blk_cell SK 3
  have sf3 : w2.frozen? ⟨w1.heap.size, 3, none⟩ = false := blk_frozen SK 3
  have s4 : w2.cell? ⟨w1.heap.size, 4, none⟩ = _ := blk_cell SK 4
  have sf4 : w2.frozen? ⟨w1.heap.size, 4, none⟩ = false := blk_frozen SK 4
  have HB2 : Hid (Below w.heap.size w w2) := on (below_alloc HB.out _) hb2
  have HBK2 := Lib.hid BK2
  have HSK := Lib.hid SK
  have Hlt := Lib.hid hlt
  clear hb2 BK2 SK HB HBK
  go_wp2_with fail
  refine bodyPost_ret (results_ct rfl _ _ w.heap.size 48 _ (0, 0) _ rfl (put5 (blk_far (blk_far HBK2.out hn1 _) hn1 _) _ _ _ _ _) Try.underlying48 rfl (by kernel_rfl)) rfl ?_
  exact ⟨rfl, below5 ((HB2.out.setCell (p := ⟨w1.heap.size, 3, none⟩) (Nat.le_of_lt Hlt.out) _).setCell (p := ⟨w1.heap.size, 4, none⟩) (Nat.le_of_lt Hlt.out) _) (Nat.le_refl _) _ _ _ _ _⟩
set_option maxRecDepth 100000 in
theorem shape5 (mode : Int) (hm : (mode == 2) = false) (w : World) : Calls Try.prog 17 #[.int .i64 5, .int .i64 mode] w fun e w' => e = .returned (.tuple #[shV 2 true true false, .bool true]) ∧ Below w.heap.size w w' := by
  go_enter Try.func17, Try.ntmps17
  go_wp2_with fail
  refine (bigC _).mono ?_
  rintro e w1 ⟨rfl, hb⟩
  have BK : w1.heap[w.heap.size]? = some (.cells #[.int .i64 0, .bool false, .bool false, .nilFunc, .nilFunc] 48 (0, 0)) := (hb.block _ (by simp)).trans (heap_alloc_new _ _)
  have hlt : w.heap.size < w1.heap.size := blk_lt BK
  have e0 : w1.cell? ⟨w.heap.size, 0, none⟩ = _ := blk_cell BK 0
  have ef0 : w1.frozen? ⟨w.heap.size, 0, none⟩ = false := blk_frozen BK 0
  have e1 : w1.cell? ⟨w.heap.size, 1, none⟩ = _ := blk_cell BK 1
  have ef1 : w1.frozen? ⟨w.heap.size, 1, none⟩ = false := blk_frozen BK 1
  have e2 : w1.cell? ⟨w.heap.size, 2, none⟩ = _ := blk_cell BK 2
  have ef2 : w1.frozen? ⟨w.heap.size, 2, none⟩ = false := blk_frozen BK 2
  have e3 : w1.cell? ⟨w.heap.size, 3, none⟩ = _ := blk_cell BK 3
  have ef3 : w1.frozen? ⟨w.heap.size, 3, none⟩ = false := blk_frozen BK 3
  have e4 : w1.cell? ⟨w.heap.size, 4, none⟩ = _ := blk_cell BK 4
  have ef4 : w1.frozen? ⟨w.heap.size, 4, none⟩ = false := blk_frozen BK 4
  have HB := Lib.hid hb
  have HBK := Lib.hid BK
  clear hb BK
  go_wp2_with fail
  refine bodyPost_ret (results_ct rfl _ _ w.heap.size 48 _ (0, 0) _ rfl (blk_alloc (put5 HBK.out _ _ _ _ _) _) Try.underlying48 rfl (by kernel_rfl)) rfl ?_
  exact ⟨rfl, below_alloc (below5 (below_then (below_alloc (Below.refl _ _) _) (by simp) HB.out) (Nat.le_refl _) _ _ _ _ _) _⟩
set_option maxRecDepth 100000 in
theorem shape8 (mode : Int) (hm : (mode == 2) = false) (w : World) : Calls Try.prog 17 #[.int .i64 8, .int .i64 mode] w fun e w' => e = .returned (.tuple #[shV 4 false true false, .bool true]) ∧ Below w.heap.size w w' := by
  go_enter Try.func17, Try.ntmps17
  go_wp2_with fail
  refine (bigC _).mono ?_
  rintro e w1 ⟨rfl, hb⟩
  have BK : w1.heap[w.heap.size]? = some (.cells #[.int .i64 0, .bool false, .bool false, .nilFunc, .nilFunc] 48 (0, 0)) := (hb.block _ (by simp)).trans (heap_alloc_new _ _)
  have hlt : w.heap.size < w1.heap.size := blk_lt BK
  have e0 : w1.cell? ⟨w.heap.size, 0, none⟩ = _ := blk_cell BK 0
  have ef0 : w1.frozen? ⟨w.heap.size, 0, none⟩ = false := blk_frozen BK 0
  have e1 : w1.cell? ⟨w.heap.size, 1, none⟩ = _ := blk_cell BK 1
  have ef1 : w1.frozen? ⟨w.heap.size, 1, none⟩ = false := blk_frozen BK 1
  have e2 : w1.cell? ⟨w.heap.size, 2, none⟩ = _ := blk_cell BK 2
  have ef2 : w1.frozen? ⟨w.heap.size, 2, none⟩ = false := blk_frozen BK 2
  have e3 : w1.cell? ⟨w.heap.size, 3, none⟩ = _ := blk_cell BK 3
  have ef3 : w1.frozen? ⟨w.heap.size, 3, none⟩ = false := blk_frozen BK 3
  have e4 : w1.cell? ⟨w.heap.size, 4, none⟩ = _ := blk_cell BK 4
  have ef4 : w1.frozen? ⟨w.heap.size, 4, none⟩ = false := blk_frozen BK 4
  have HB := Lib.hid hb
  have HBK := Lib.hid BK
  clear hb BK
  go_wp2_with fail
  refine bodyPost_ret (results_ct rfl _ _ w.heap.size 48 _ (0, 0) _ rfl (blk_alloc (put5 HBK.out _ _ _ _ _) _) Try.underlying48 rfl (by kernel_rfl)) rfl ?_
  exact ⟨rfl, below_alloc (below5 (below_then (below_alloc (Below.refl _ _) _) (by simp) HB.out) (Nat.le_refl _) _ _ _ _ _) _⟩
set_option maxRecDepth 100000 in
theorem shape5L (w : World) : Calls Try.prog 17 #[.int .i64 5, .int .i64 2] w fun e w' => e = .returned (.tuple #[shV 2 true true true, .bool true]) ∧ Below w.heap.size w w' := by
  go_enter Try.func17, Try.ntmps17
  go_wp2_with fail
  refine (bigC _).mono ?_
  rintro e w1 ⟨rfl, hb⟩
  have BK : w1.heap[w.heap.size]? = some (.cells #[.int .i64 0, .bool false, .bool false, .nilFunc, .nilFunc] 48 (0, 0)) := (hb.block _ (by simp)).trans (heap_alloc_new _ _)
  have hlt : w.heap.size < w1.heap.size := blk_lt BK
  have HB : Hid (Below w.heap.size w w1) := below_then (below_alloc (Below.refl _ _) _) (by simp) hb
  have HBK := Lib.hid BK
  clear hb BK
  go_wp2_with fail
  refine (littleC _).mono ?_
  rintro e w2 ⟨rfl, hb2⟩
  have SK : w2.heap[w1.heap.size]? = some (.cells #[.int .i64 2, .bool true, .bool true, .func (.func 34) #[] #[], .func (.func 35) #[] #[]] 48 (0, 0)) := (hb2.block _ (by simp)).trans (heap_alloc_new _ _)
  have BK2 : w2.heap[w.heap.size]? = some (.cells #[.int .i64 0, .bool false, .bool false, .nilFunc, .nilFunc] 48 (0, 0)) := (hb2.block _ (by simp; omega)).trans (blk_alloc HBK.out _)
  have hn1 : ¬ w.heap.size = w1.heap.size := by omega
  have hn2 : ¬ w1.heap.size = w.heap.size := by omega
  have e0 : w2.cell? ⟨w.heap.size, 0, none⟩ = _ := blk_cell BK2 0
  have ef0 : w2.frozen? ⟨w.heap.size, 0, none⟩ = false := blk_frozen BK2 0
  have e1 : w2.cell? ⟨w.heap.size, 1, none⟩ = _ := blk_cell BK2 1
  have ef1 : w2.frozen? ⟨w.heap.size, 1, none⟩ = false := blk_frozen BK2 1
  have e2 : w2.cell? ⟨w.heap.size, 2, none⟩ = _ := blk_cell BK2 2
  have ef2 : w2.frozen? ⟨w.heap.size, 2, none⟩ = false := blk_frozen BK2 2
  have e3 : w2.cell? ⟨w.heap.size, 3, none⟩ = _ := blk_cell BK2 3
  have ef3 : w2.frozen? ⟨w.heap.size, 3, none⟩ = false := blk_frozen BK2 3
  have e4 : w2.cell? ⟨w.heap.size, 4, none⟩ = _ := blk_cell BK2 4
  have ef4 : w2.frozen? ⟨w.heap.size, 4, none⟩ = false := blk_frozen BK2 4
  have s0 : w2.cell? ⟨w1.heap.size, 0, none⟩ = _ := blk_cell SK 0
  have sf0 : w2.frozen? ⟨w1.heap.size, 0, none⟩ = false := blk_frozen SK 0
  have s1 : w2.cell? ⟨w1.heap.size, 1, none⟩ = _ := blk_cell SK 1
  have sf1 : w2.frozen? ⟨w1.heap.size, 1, none⟩ = false := blk_frozen SK 1
  have s2 : w2.cell? ⟨w1.heap.size, 2, none⟩ = _ := blk_cell SK 2
  have sf2 : w2.frozen? ⟨w1.heap.size, 2, none⟩ = false := blk_frozen SK 2
  have s3 : w2.cell? ⟨w1.heap.size, 3, none⟩ = _ := blk_cell SK 3
  have sf3 : w2.frozen? ⟨w1.heap.size, 3, none⟩ = false := blk_frozen SK 3
  have s4 : w2.cell? ⟨w1.heap.size, 4, none⟩ = _ := blk_cell SK 4
  have sf4 : w2.frozen? ⟨w1.heap.size, 4, none⟩ = false := blk_frozen SK 4
  have HB2 : Hid (Below w.heap.size w w2) := on (below_alloc HB.out _) hb2
  have HBK2 := Lib.hid BK2
  have HSK := Lib.hid SK
  have Hlt := Lib.hid hlt
  clear hb2 BK2 SK HB HBK
  go_wp2_with fail
  refine bodyPost_ret (results_ct rfl _ _ w.heap.size 48 _ (0, 0) _ rfl (put5 (blk_far (blk_far HBK2.out hn1 _) hn1 _) _ _ _ _ _) Try.underlying48 rfl (by kernel_rfl)) rfl ?_
  exact ⟨rfl, below5 ((HB2.out.setCell (p := ⟨w1.heap.size, 3, none⟩) (Nat.le_of_lt Hlt.out) _).setCell (p := ⟨w1.heap.size, 4, none⟩) (Nat.le_of_lt Hlt.out) _) (Nat.le_refl _) _ _ _ _ _⟩
set_option maxRecDepth 100000 in
theorem shape8L (w : World) : Calls Try.prog 17 #[.int .i64 8, .int .i64 2] w fun e w' => e = .returned (.tuple #[shV 4 false true true, .bool true]) ∧ Below w.heap.size w w' := by
  go_enter Try.func17, Try.ntmps17
  go_wp2_with fail
  refine (bigC _).mono ?_
  rintro e w1 ⟨rfl, hb⟩
  have BK : w1.heap[w.heap.size]? = some (.cells #[.int .i64 0, .bool false, .bool false, .nilFunc, .nilFunc] 48 (0, 0)) := (hb.block _ (by simp)).trans (heap_alloc_new _ _)
  have hlt : w.heap.size < w1.heap.size := blk_lt BK
  have HB : Hid (Below w.heap.size w w1) := below_then (below_alloc (Below.refl _ _) _) (by simp) hb
  have HBK := Lib.hid BK
  clear hb BK
  go_wp2_with fail
  refine (littleC _).mono ?_
  rintro e w2 ⟨rfl, hb2⟩
  have SK : w2.heap[w1.heap.size]? = some (.cells #[.int .i64 4, .bool false, .bool true, .func (.func 34) #[] #[], .func (.func 35) #[] #[]] 48 (0, 0)) := (hb2.block _ (by simp)).trans (heap_alloc_new _ _)
  have BK2 : w2.heap[w.heap.size]? = some (.cells #[.int .i64 0, .bool false, .bool false, .nilFunc, .nilFunc] 48 (0, 0)) := (hb2.block _ (by simp; omega)).trans (blk_alloc HBK.out _)
  have hn1 : ¬ w.heap.size = w1.heap.size := by omega
  have hn2 : ¬ w1.heap.size = w.heap.size := by omega
  have e0 : w2.cell? ⟨w.heap.size, 0, none⟩ = _ := blk_cell BK2 0
  have ef0 : w2.frozen? ⟨w.heap.size, 0, none⟩ = false := blk_frozen BK2 0
  have e1 : w2.cell? ⟨w.heap.size, 1, none⟩ = _ := blk_cell BK2 1
  have ef1 : w2.frozen? ⟨w.heap.size, 1, none⟩ = false := blk_frozen BK2 1
  have e2 : w2.cell? ⟨w.heap.size, 2, none⟩ = _ := blk_cell BK2 2
  have ef2 : w2.frozen? ⟨w.heap.size, 2, none⟩ = false := blk_frozen BK2 2
  have e3 : w2.cell? ⟨w.heap.size, 3, none⟩ = _ := blk_cell BK2 3
  have ef3 : w2.frozen? ⟨w.heap.size, 3, none⟩ = false := blk_frozen BK2 3
  have e4 : w2.cell? ⟨w.heap.size, 4, none⟩ = _ := blk_cell BK2 4
  have ef4 : w2.frozen? ⟨w.heap.size, 4, none⟩ = false := blk_frozen BK2 4
  have s0 : w2.cell? ⟨w1.heap.size, 0, none⟩ = _ := blk_cell SK 0
  have sf0 : w2.frozen? ⟨w1.heap.size, 0, none⟩ = false := blk_frozen SK 0
  have s1 : w2.cell? ⟨w1.heap.size, 1, none⟩ = _ := blk_cell SK 1
  have sf1 : w2.frozen? ⟨w1.heap.size, 1, none⟩ = false := blk_frozen SK 1
  have s2 : w2.cell? ⟨w1.heap.size, 2, none⟩ = _ := blk_cell SK 2
  have sf2 : w2.frozen? ⟨w1.heap.size, 2, none⟩ = false := blk_frozen SK 2
  have s3 : w2.cell? ⟨w1.heap.size, 3, none⟩ = _ := blk_cell SK 3
  have sf3 : w2.frozen? ⟨w1.heap.size, 3, none⟩ = false := blk_frozen SK 3
  have s4 : w2.cell? ⟨w1.heap.size, 4, none⟩ = _ := blk_cell SK 4
  have sf4 : w2.frozen? ⟨w1.heap.size, 4, none⟩ = false := blk_frozen SK 4
  have HB2 : Hid (Below w.heap.size w w2) := on (below_alloc HB.out _) hb2
  have HBK2 := Lib.hid BK2
  have HSK := Lib.hid SK
  have Hlt := Lib.hid hlt
  clear hb2 BK2 SK HB HBK
  go_wp2_with fail
  refine bodyPost_ret (results_ct rfl _ _ w.heap.size 48 _ (0, 0) _ rfl (put5 (blk_far (blk_far HBK2.out hn1 _) hn1 _) _ _ _ _ _) Try.underlying48 rfl (by kernel_rfl)) rfl ?_
  exact ⟨rfl, below5 ((HB2.out.setCell (p := ⟨w1.heap.size, 3, none⟩) (Nat.le_of_lt Hlt.out) _).setCell (p := ⟨w1.heap.size, 4, none⟩) (Nat.le_of_lt Hlt.out) _) (Nat.le_refl _) _ _ _ _ _⟩
set_option maxRecDepth 100000 in
theorem shape_no (kind mode : Int) (h3 : ((kind : Int) == 3) = false) (h4 : ((kind : Int) == 4) = false) (h5 : ((kind : Int) == 5) = false) (h6 : ((kind : Int) == 6) = false) (h7 : ((kind : Int) == 7) = false) (h8 : ((kind : Int) == 8) = false) (h9 : ((kind : Int) == 9) = false) (h10 : ((kind : Int) == 10) = false) (w : World) : Calls Try.prog 17 #[.int .i64 kind, .int .i64 mode] w fun e w' => e = .returned (.tuple #[shV 2 false false false, .bool false]) ∧ Below w.heap.size w w' := by
  go_enter Try.func17, Try.ntmps17
  go_wp2_with fail
  refine (bigC _).mono ?_
  rintro e w1 ⟨rfl, hb⟩
  have BK : w1.heap[w.heap.size]? = some (.cells #[.int .i64 0, .bool false, .bool false, .nilFunc, .nilFunc] 48 (0, 0)) := (hb.block _ (by simp)).trans (heap_alloc_new _ _)
  have hlt : w.heap.size < w1.heap.size := blk_lt BK
  have e0 : w1.cell? ⟨w.heap.size, 0, none⟩ = _ := blk_cell BK 0
  have ef0 : w1.frozen? ⟨w.heap.size, 0, none⟩ = false := blk_frozen BK 0
  have e1 : w1.cell? ⟨w.heap.size, 1, none⟩ = _ := blk_cell BK 1
  have ef1 : w1.frozen? ⟨w.heap.size, 1, none⟩ = false := blk_frozen BK 1
  have e2 : w1.cell? ⟨w.heap.size, 2, none⟩ = _ := blk_cell BK 2
  have ef2 : w1.frozen? ⟨w.heap.size, 2, none⟩ = false := blk_frozen BK 2
  have e3 : w1.cell? ⟨w.heap.size, 3, none⟩ = _ := blk_cell BK 3
  have ef3 : w1.frozen? ⟨w.heap.size, 3, none⟩ = false := blk_frozen BK 3
  have e4 : w1.cell? ⟨w.heap.size, 4, none⟩ = _ := blk_cell BK 4
  have ef4 : w1.frozen? ⟨w.heap.size, 4, none⟩ = false := blk_frozen BK 4
  have HB := Lib.hid hb
  have HBK := Lib.hid BK
  clear hb BK
  go_wp2_with fail
  refine bodyPost_ret (results_ct rfl _ _ w.heap.size 48 _ (0, 0) _ rfl (blk_alloc (put5 HBK.out _ _ _ _ _) _) Try.underlying48 rfl (by kernel_rfl)) rfl ?_
  exact ⟨rfl, below_alloc (below5 (below_then (below_alloc (Below.refl _ _) _) (by simp) HB.out) (Nat.le_refl _) _ _ _ _ _) _⟩
theorem shapeC {kind mode n : Int} {pairs marks low : Bool} (w : World) (h : shp kind mode = some (n, pairs, marks, low)) : Calls Try.prog 17 #[.int .i64 kind, .int .i64 mode] w fun e w' => e = .returned (.tuple #[shV n pairs marks low, .bool true]) ∧ Below w.heap.size w w' := by
  by_cases hm : mode = 2
  · subst hm
    unfold shp at h
    repeat' split at h
    all_goals first | (cases h; done) | skip
    all_goals
      simp only [Option.some.injEq, Prod.mk.injEq] at h
      obtain ⟨rfl, rfl, rfl, rfl⟩ := h
      subst kind
    · exact shape3 2 w
    · exact shape4 2 w
    · exact shape5L w
    · exact shape6 2 w
    · exact shape7 2 w
    · exact shape8L w
    · exact shape9 2 w
    · exact shape10 2 w
  · have hd : decide (mode = 2) = false := decide_eq_false hm
    have hb : (mode == 2) = false := beq_eq_false_iff_ne.2 hm
    unfold shp at h
    rw [hd] at h
    repeat' split at h
    all_goals first | (cases h; done) | skip
    all_goals
      simp only [Option.some.injEq, Prod.mk.injEq] at h
      obtain ⟨rfl, rfl, rfl, rfl⟩ := h
      subst kind
    · exact shape3 mode w
    · exact shape4 mode w
    · exact shape5 mode hb w
    · exact shape6 mode w
    · exact shape7 mode w
    · exact shape8 mode hb w
    · exact shape9 mode w
    · exact shape10 mode w
theorem shapeC_not {kind mode : Int} (w : World) (h : shp kind mode = none) : Calls Try.prog 17 #[.int .i64 kind, .int .i64 mode] w fun e w' => e = .returned (.tuple #[shV 2 false false false, .bool false]) ∧ Below w.heap.size w w' := by
  unfold shp at h
  repeat' split at h
  all_goals first | (cases h; done) | skip
  exact shape_no kind mode (beq_eq_false_iff_ne.2 ‹_›) (beq_eq_false_iff_ne.2 ‹_›) (beq_eq_false_iff_ne.2 ‹_›) (beq_eq_false_iff_ne.2 ‹_›) (beq_eq_false_iff_ne.2 ‹_›) (beq_eq_false_iff_ne.2 ‹_›) (beq_eq_false_iff_ne.2 ‹_›) (beq_eq_false_iff_ne.2 ‹_›) w
set_option maxRecDepth 100000 in
theorem hasC (kind : Int) (w : World) : Calls Try.prog 13 #[.int .i64 kind] w fun e w' => e = .returned (.bool (shp kind 0).isSome) ∧ Below w.heap.size w w' := by
  rcases hs : shp kind 0 with _ | ⟨n, pairs, marks, low⟩
  · go_enter Try.func13, Try.ntmps13
    go_wp2_with fail
    refine (shapeC_not _ hs).mono ?_
    rintro e w1 ⟨rfl, hb⟩
    have HB := Lib.hid hb
    clear hb hs
    unfold shV fN fS
    go_wp2_with fail
    go_ret
    exact ⟨rfl, below_alloc HB.out _⟩
  · go_enter Try.func13, Try.ntmps13
    go_wp2_with fail
    refine (shapeC _ hs).mono ?_
    rintro e w1 ⟨rfl, hb⟩
    have HB := Lib.hid hb
    clear hb hs
    unfold shV fN fS
    cases low
    all_goals
      go_wp2_with fail
      go_ret
      exact ⟨rfl, below_alloc HB.out _⟩
end Go.Proofs.Ytflmpdfcbdfabaa.Wd
