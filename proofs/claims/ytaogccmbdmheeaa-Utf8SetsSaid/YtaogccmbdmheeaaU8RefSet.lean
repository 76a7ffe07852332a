/- What the reference writes of any number; Utf8Sets, walked. -/
import Derived.Test.YtaogccmbdmheeaaU8Works
import Derived.Lib.Bytes
import Derived.Lib.Hide
namespace Go.Proofs.Ytaogccmbdmheeaa.U8
open Go.RowKit Go.Proofs.YtaogccmbdmheeaaW.PrintWords Go.Proofs.YtaogccmbdmheeaaW.PrintLast Go.Proofs.YtaogccmbdmheeaaW.PrintMore
theorem info5 : (Try.prog.info? 5).map (fun i => (i.zero, i.size, i.bytes)) = some (some (.int .u8 0), 1, 1) := by kernel_rfl
/-- What is left to write of u behind k bytes, and the bytes. -/
def lft (u : Int) : Nat → Int
  | 0 => u
  | k + 1 => lft u k / 64
def dg (u : Int) : Nat → List Int
  | 0 => []
  | k + 1 => (128 + lft u k % 64) :: dg u k
theorem lft_bd {u : Int} (h0 : 0 ≤ u) (h1 : u < 2097152) : ∀ k, 0 ≤ lft u k ∧ lft u k < 2097152
  | 0 => ⟨h0, h1⟩
  | k + 1 => by
    have := lft_bd h0 h1 k
    unfold lft
    omega
theorem dg_len (u : Int) : ∀ k, (dg u k).length = k
  | 0 => rfl
  | k + 1 => by unfold dg; simp [dg_len u k]
def BytesEnd (w : World) (l : List Int) (e : Ending) (w' : World) : Prop := ∃ v, e = .returned v ∧ w'.ownsRow w.heap.size 5 1 v l.length (nums .u8 l) ∧ Below w.heap.size w w'
set_option maxRecDepth 100000 in
theorem bytes_calls (u n : Int) (w : World) (res : List Int) (h0 : 0 ≤ u) (h1 : u < 2097152) (n0 : 2 ≤ n) (n1 : n ≤ 4)
    (hres : ∀ k : Nat, (k : Int) + 1 = n → [((65280 / 2 ^ n.toNat : Int).tmod 256 + lft u k) % 256] ++ dg u k = res) : Calls Try.prog 23 #[.int .i32 u, .int .i64 n] w (BytesEnd w res) := by
  have HRES := Lib.hid hres
  clear hres
  have hn : ((n : Int) == 1) = false := beq_eq_false_iff_ne.2 (by omega)
  go_enter Try.func23, Try.ntmps23
  go_wp2_with fail
  go_loopw [0, 5, 6] (fun a b i wr => ∃ (k : Nat), (k : Int) + 1 ≤ n ∧ a = .int .i32 (lft u k) ∧ i = .int .i64 ((k : Int) + 1) ∧ wr.ownsRow w.heap.size 5 1 b (dg u k).length (nums .u8 (dg u k)) ∧ Below w.heap.size w wr) (fun _ _ i _ => (n - intOf i).toNat)
  case atStart => exact ⟨0, by omega, rfl, rfl, own_nil _ _ _ _, Below.refl _ _⟩
  case round =>
    obtain ⟨k, hk, rfl, rfl, HO0, HB0⟩ := hrel
    obtain ⟨A, c, rfl, HR0⟩ := own_reads HO0
    have HO := Lib.hid HO0
    have HB := Lib.hid HB0
    have HR := Lib.hid HR0
    clear HO0 HB0 HR0
    obtain ⟨hx0, hx1⟩ := lft_bd h0 h1 k
    have hl : (dg u k).length = k := dg_len u k
    have hl4 : (dg u k).length ≤ 4 := by omega
    clear hl
    by_cases hlt : (k : Int) + 1 < n
    · go_wp2_with (at_builtin; refine print_append_row w.heap.size rfl (.tmp 22) (.tmp 23) 30 5 .u8 1 rfl Try.underlying30 info5 (by omega) (.slice (some ⟨wr.heap.size, 0, none⟩) 1 1) [128 + lft u k % 64] (dg u k) A (dg u k).length c rfl rfl (own_lit wr w.heap.size 5 .u8 [128 + lft u k % 64] HB.out.size (by simp)) (HR.out.allocS _) (below_alloc HB.out _) (by have := HB.out.size; simp; omega) (by simp; omega) ?_; intro v1 w1 hown1 hb1 hg1 hat1; clear hg1 hat1; have HO1 := Lib.hid hown1; have HB1 := Lib.hid hb1; clear hown1 hb1)
      go_roundw
      case rel => exact ⟨k + 1, by omega, rfl, by go_num, HO1.out, HB1.out⟩
      case measure => simp [intOf]; omega
    · have hr := HRES.out k (by omega)
      have HR2 := Lib.hid hr
      clear hr
      go_wp2_with (at_builtin; refine print_append_row w.heap.size rfl (.tmp 35) (.tmp 36) 30 5 .u8 1 rfl Try.underlying30 info5 (by omega) (.slice (some ⟨wr.heap.size, 0, none⟩) 1 1) [((65280 / 2 ^ n.toNat : Int).tmod 256 + lft u k) % 256] (dg u k) A (dg u k).length c rfl rfl (own_lit wr w.heap.size 5 .u8 [((65280 / 2 ^ n.toNat : Int).tmod 256 + lft u k) % 256] HB.out.size (by simp)) (HR.out.allocS _) (below_alloc HB.out _) (by have := HB.out.size; simp; omega) (by simp; omega) ?_; intro v1 w1 hown1 hb1 hg1 hat1; clear hg1 hat1; have HO1 := Lib.hid hown1; have HB1 := Lib.hid hb1; clear hown1 hb1)
      go_ret
      exact ⟨_, rfl, by rw [← HR2.out]; exact HO1.out, HB1.out⟩

set_option maxRecDepth 100000 in
theorem bytes_one (u : Int) (w : World) (h0 : 0 ≤ u) (h1 : u < 128) : Calls Try.prog 23 #[.int .i32 u, .int .i64 1] w (BytesEnd w [u]) := by
  go_enter Try.func23, Try.ntmps23
  go_wp2_with fail
  go_ret
  exact ⟨_, rfl, own_lit w w.heap.size 5 .u8 [u] (Nat.le_refl _) (by simp), below_alloc (Below.refl _ _) _⟩
theorem enc2 {u : Int} (h0 : 128 ≤ u) (h1 : u < 2048) (k : Nat) (hk : (k : Int) + 1 = 2) : [((65280 / 2 ^ (2 : Int).toNat : Int).tmod 256 + lft u k) % 256] ++ dg u k = enc u := by
  obtain rfl : k = 1 := by omega
  unfold enc
  rw [if_neg (by omega), if_pos h1, show (65280 / 2 ^ (2 : Int).toNat : Int).tmod 256 = 192 by decide +kernel]
  simp only [lft, dg, List.cons_append, List.nil_append, List.cons.injEq, and_true]
  omega
theorem enc3 {u : Int} (h0 : 2048 ≤ u) (h1 : u < 65536) (k : Nat) (hk : (k : Int) + 1 = 3) : [((65280 / 2 ^ (3 : Int).toNat : Int).tmod 256 + lft u k) % 256] ++ dg u k = enc u := by
  obtain rfl : k = 2 := by omega
  unfold enc
  rw [if_neg (by omega), if_neg (by omega), if_pos h1, show (65280 / 2 ^ (3 : Int).toNat : Int).tmod 256 = 224 by decide +kernel]
  simp only [lft, dg, List.cons_append, List.nil_append, List.cons.injEq, and_true]
  omega
theorem enc4 {u : Int} (h0 : 65536 ≤ u) (h1 : u < 1114112) (k : Nat) (hk : (k : Int) + 1 = 4) : [((65280 / 2 ^ (4 : Int).toNat : Int).tmod 256 + lft u k) % 256] ++ dg u k = enc u := by
  obtain rfl : k = 3 := by omega
  unfold enc
  rw [if_neg (by omega), if_neg (by omega), if_neg (by omega), show (65280 / 2 ^ (4 : Int).toNat : Int).tmod 256 = 240 by decide +kernel]
  simp only [lft, dg, List.cons_append, List.nil_append, List.cons.injEq, and_true]
  omega
theorem bytes_enc (u n : Int) (w : World) (h : Scal u) (hn : n = if u < 128 then 1 else if u < 2048 then 2 else if u < 65536 then 3 else 4) : Calls Try.prog 23 #[.int .i32 u, .int .i64 n] w (BytesEnd w (enc u)) := by
  obtain ⟨h0, h1, _⟩ := h
  subst hn
  by_cases c1 : u < 128
  · rw [if_pos c1, show enc u = [u] by unfold enc; rw [if_pos c1]]
    exact bytes_one u w h0 c1
  · rw [if_neg c1]
    by_cases c2 : u < 2048
    · rw [if_pos c2]
      exact bytes_calls u 2 w _ h0 (by omega) (by omega) (by omega) (enc2 (by omega) c2)
    · rw [if_neg c2]
      by_cases c3 : u < 65536
      · rw [if_pos c3]
        exact bytes_calls u 3 w _ h0 (by omega) (by omega) (by omega) (enc3 (by omega) c3)
      · rw [if_neg c3]
        exact bytes_calls u 4 w _ h0 (by omega) (by omega) (by omega) (enc4 (by omega) (by omega))
/-- A block of six cells, stored cell by cell. -/
theorem put6 {w : World} {g : Nat} {t : TypeId} {o0 o1 o2 o3 o4 o5 : Value} (h : w.heap[g]? = some (.cells #[o0, o1, o2, o3, o4, o5] t (0, 0))) (a0 a1 a2 a3 a4 a5 : Value) :
    ((((((w.setCell ⟨g, 0, none⟩ a0).setCell ⟨g, 1, none⟩ a1).setCell ⟨g, 2, none⟩ a2).setCell ⟨g, 3, none⟩ a3).setCell ⟨g, 4, none⟩ a4).setCell ⟨g, 5, none⟩ a5).heap[g]? = some (.cells #[a0, a1, a2, a3, a4, a5] t (0, 0)) :=
  blk_set (blk_set (blk_set (blk_set (blk_set (blk_set h 0 a0) 1 a1) 2 a2) 3 a3) 4 a4) 5 a5
theorem below6 {B : Nat} {w0 w : World} (h : Below B w0 w) {g : Nat} (hg : B ≤ g) (a0 a1 a2 a3 a4 a5 : Value) :
    Below B w0 ((((((w.setCell ⟨g, 0, none⟩ a0).setCell ⟨g, 1, none⟩ a1).setCell ⟨g, 2, none⟩ a2).setCell ⟨g, 3, none⟩ a3).setCell ⟨g, 4, none⟩ a4).setCell ⟨g, 5, none⟩ a5) :=
  (((((h.setCell (p := ⟨g, 0, none⟩) hg a0).setCell (p := ⟨g, 1, none⟩) hg a1).setCell (p := ⟨g, 2, none⟩) hg a2).setCell (p := ⟨g, 3, none⟩) hg a3).setCell (p := ⟨g, 4, none⟩) hg a4).setCell (p := ⟨g, 5, none⟩) hg a5
set_option maxRecDepth 100000 in
/-- dragomanref03.Set of a scalar. -/
theorem refSetC (u : Int) (w : World) (h : Scal u) :
    Calls Try.prog 12 #[.int .i32 u] w fun e w' => e = .returned (.agg #[.int .i64 0, .string (strOfNums (enc u)), .int .i64 0, .int .i64 0, .int .u32 0, .int .i32 0]) ∧ Below w.heap.size w w' := by
  have HS := Lib.hid h
  have hu0 : 0 ≤ u := h.1
  clear h
  rcases (show u < 128 ∨ (128 ≤ u ∧ u < 2048) ∨ (2048 ≤ u ∧ u < 65536) ∨ 65536 ≤ u by omega) with c1 | ⟨c1, c2⟩ | ⟨c1, c2⟩ | c1
  all_goals
    go_enter Try.func12, Try.ntmps12
    go_wp2_with fail
    refine (refScalarC u _).mono ?_
    rintro e w2 ⟨rfl, rfl⟩
    rw [decide_eq_true HS.out]
    go_wp2_with fail
    refine (bytes_enc u _ _ HS.out (by repeat' split <;> omega)).mono ?_
    rintro e w3 ⟨v, rfl, ho, hb⟩
    have hcv := own_string (P := Try.prog) (dst := 9) Try.underlying30 Try.underlying5 Try.underlying9 ho
    have BK : w3.heap[w.heap.size]? = some (.cells #[.int .i64 0, .string ⟨#[]⟩, .int .i64 0, .int .i64 0, .int .u32 0, .int .i32 0] 27 (0, 0)) := (hb.block _ (by simp)).trans (heap_alloc_new _ _)
    have e0 := blk_cell BK 0
    have e1 := blk_cell BK 1
    have e2 := blk_cell BK 2
    have e3 := blk_cell BK 3
    have e4 := blk_cell BK 4
    have e5 := blk_cell BK 5
    have f0 := blk_frozen BK 0
    have f1 := blk_frozen BK 1
    have f2 := blk_frozen BK 2
    have f3 := blk_frozen BK 3
    have f4 := blk_frozen BK 4
    have f5 := blk_frozen BK 5
    have HB := Lib.hid hb
    have HBK := Lib.hid BK
    clear hb ho BK
    go_wp2_with fail
    refine bodyPost_ret (results_cell_row rfl _ _ w.heap.size 27 _ (0, 0) _ rfl (put6 HBK.out _ _ _ _ _ _) Try.underlying27 rfl (by kernel_rfl)) rfl ?_
    exact ⟨rfl, below6 (onA (Below.refl _ _) HB.out) (Nat.le_refl _) _ _ _ _ _ _⟩
set_option maxRecDepth 100000 in
theorem refSetC_not (u : Int) (w : World) (h : ¬ Scal u) :
    Calls Try.prog 12 #[.int .i32 u] w fun e w' => e = .returned (.agg #[.int .i64 11, .string ⟨#[]⟩, .int .i64 0, .int .i64 0, .int .u32 0, .int .i32 0]) ∧ Below w.heap.size w w' := by
  have BK : (w.alloc (.cells #[.int .i64 0, .string ⟨#[]⟩, .int .i64 0, .int .i64 0, .int .u32 0, .int .i32 0] 27)).heap[w.heap.size]? = some (.cells #[.int .i64 0, .string ⟨#[]⟩, .int .i64 0, .int .i64 0, .int .u32 0, .int .i32 0] 27 (0, 0)) := heap_alloc_new _ _
  have HBK := Lib.hid BK
  clear BK
  go_enter Try.func12, Try.ntmps12
  go_wp2_with fail
  refine (refScalarC u _).mono ?_
  rintro e w2 ⟨rfl, rfl⟩
  rw [decide_eq_false h]
  go_wp2_with fail
  refine bodyPost_ret (results_cell_row rfl _ _ w.heap.size 27 #[.int .i64 11, .string ⟨#[]⟩, .int .i64 0, .int .i64 0, .int .u32 0, .int .i32 0] (0, 0) _ rfl (heap_alloc_new _ _) Try.underlying27 rfl (by kernel_rfl)) rfl ?_
  exact ⟨rfl, below_alloc (Below.refl _ _) _⟩
set_option maxRecDepth 100000 in
theorem sets_walk (u : Int) (_ : (Lit.int .i32 u).wf = true) (w : World) : Calls Try.prog 3 #[.int .i32 u] w fun e w' => e = .returned (.bool true) ∧ Below w.heap.size w w' := by
  by_cases h : Scal u
  · go_enter Try.func3, Try.ntmps3
    go_wp2_with fail
    refine (setC u _ h).mono ?_
    rintro e w1 ⟨rfl, hb1⟩
    have HB1 : Hid (Below w.heap.size w w1) := hb1
    clear hb1
    go_wp2_with fail
    refine (refSetC u _ h).mono ?_
    rintro e w2 ⟨rfl, hb2⟩
    have HB2 : Hid (Below w.heap.size w w2) := on HB1.out hb2
    clear hb2
    go_wp2_with fail
    go_ret
    exact ⟨rfl, HB2.out⟩
  · go_enter Try.func3, Try.ntmps3
    go_wp2_with fail
    refine (setC_not u _ h).mono ?_
    rintro e w1 ⟨rfl, hb1⟩
    have HB1 : Hid (Below w.heap.size w w1) := hb1
    clear hb1
    go_wp2_with fail
    refine (refSetC_not u _ h).mono ?_
    rintro e w2 ⟨rfl, hb2⟩
    have HB2 : Hid (Below w.heap.size w w2) := on HB1.out hb2
    clear hb2
    go_wp2_with fail
    go_ret
    exact ⟨rfl, HB2.out⟩
end Go.Proofs.Ytaogccmbdmheeaa.U8
