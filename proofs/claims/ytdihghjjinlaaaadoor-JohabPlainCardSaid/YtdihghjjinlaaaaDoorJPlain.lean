/- JohabPlain, walked. -/
import Derived.Test.YtdihghjjinlaaaaDoorJWorks
import Derived.Test.YtdihghjjinlaaaaDoorJGets
import Derived.Test.YtdihghjjinlaaaaDoorWGuard
namespace Go.Proofs.YtdihghjjinlaaaaDoor.J
open Go.RowKit Go.Proofs.YtdihghjjinlaaaaDoorW.PrintWords Go.Proofs.YtdihghjjinlaaaaDoorW.PrintLast Go.Proofs.YtdihghjjinlaaaaDoorW.PrintMore
set_option maxRecDepth 100000 in
theorem plain_92 (A : Option Addr) (c n : Nat) (w : World) (ht : Tab w) : Calls Tryd.prog 8 #[.int .i32 92, .slice A n c] w fun e w' => e = .returned (.bool true) ∧ Below w.heap.size w w' := by
  have HT := Lib.hid ht
  clear ht
  go_enter Tryd.func8, Tryd.ntmps8
  go_wp2_with fail
  refine (worksC _ HT.out).mono ?_
  rintro e w1 ⟨rfl, hb1⟩
  have HB1 : Hid (Below w.heap.size w w1) := hb1
  clear hb1
  go_wp2_with fail
  refine (set_none 92 _ (by decide) (by decide) (by decide) (by decide)).mono ?_
  rintro e w2 ⟨rfl, hb2⟩
  have HB2 : Hid (Below w.heap.size w w2) := on HB1.out hb2
  clear hb2
  go_wp2_with fail
  go_ret
  exact ⟨rfl, below_alloc HB2.out _⟩
set_option maxRecDepth 100000 in
theorem plain_won (A : Option Addr) (c n : Nat) (w : World) (ht : Tab w) : Calls Tryd.prog 8 #[.int .i32 8361, .slice A n c] w fun e w' => e = .returned (.bool true) ∧ Below w.heap.size w w' := by
  have HT := Lib.hid ht
  clear ht
  go_enter Tryd.func8, Tryd.ntmps8
  go_wp2_with fail
  refine (worksC _ HT.out).mono ?_
  rintro e w1 ⟨rfl, hb1⟩
  have HB1 : Hid (Below w.heap.size w w1) := hb1
  clear hb1
  go_wp2_with fail
  refine (set_won _).mono ?_
  rintro e w2 ⟨rfl, hb2⟩
  have HB2 : Hid (Below w.heap.size w w2) := on HB1.out hb2
  clear hb2
  go_wp2_with fail
  go_ret
  exact ⟨rfl, below_alloc HB2.out _⟩
set_option maxRecDepth 100000 in
theorem plain_none (u : Int) (A : Option Addr) (c n : Nat) (w : World) (ht : Tab w) (hu : (Lit.int .i32 u).wf = true) (h1 : u ≠ 8361) (h2 : ¬ (0 ≤ u ∧ u < 128)) (h3 : ¬ (44032 ≤ u ∧ u ≤ 55203)) : Calls Tryd.prog 8 #[.int .i32 u, .slice A n c] w fun e w' => e = .returned (.bool true) ∧ Below w.heap.size w w' := by
  have HT := Lib.hid ht
  have HS := Lib.hid (fun W => set_none u W hu h3 h1 (by omega))
  have hb := bounds_i32 hu
  have n1 : ((u : Int) == 92) = false := beq_eq_false_iff_ne.2 (by omega)
  have n2 : ((u : Int) == 8361) = false := beq_eq_false_iff_ne.2 h1
  clear ht hu
  rcases (show u < 0 ∨ (128 ≤ u ∧ u < 44032) ∨ 55203 < u by omega) with g | ⟨g, g'⟩ | g
  all_goals
    go_enter Tryd.func8, Tryd.ntmps8
    go_wp2_with fail
    refine (worksC _ HT.out).mono ?_
    rintro e w1 ⟨rfl, hb1⟩
    have HB1 : Hid (Below w.heap.size w w1) := hb1
    clear hb1
    go_wp2_with fail
    refine (HS.out _).mono ?_
    rintro e w2 ⟨rfl, hb2⟩
    have HB2 : Hid (Below w.heap.size w w2) := on HB1.out hb2
    clear hb2
    go_wp2_with fail
    go_ret
    exact ⟨rfl, below_alloc HB2.out _⟩
set_option maxRecDepth 100000 in
theorem plain_syl (u : Int) (A : Option Addr) (c n : Nat) (w : World) (ht : Tab w) (h : 44032 ≤ u ∧ u ≤ 55203) : Calls Tryd.prog 8 #[.int .i32 u, .slice A n c] w fun e w' => e = .returned (.bool true) ∧ Below w.heap.size w w' := by
  have HT := Lib.hid ht
  have HS := Lib.hid (fun W => set_syl u W h)
  have n1 : ((u : Int) == 92) = false := beq_eq_false_iff_ne.2 (by omega)
  have n2 : ((u : Int) == 8361) = false := beq_eq_false_iff_ne.2 (by omega)
  have hm := code_bd (parts_ok h)
  clear ht
  go_enter Tryd.func8, Tryd.ntmps8
  go_wp2_with fail
  refine (worksC _ HT.out).mono ?_
  rintro e w1 ⟨rfl, hb1⟩
  have HB1 : Hid (Below w.heap.size w w1) := hb1
  clear hb1
  go_wp2_with fail
  refine (HS.out _ (HT.out.below HB1.out)).mono ?_
  rintro e w2 ⟨rfl, hb2⟩
  have HB2 : Hid (Below w.heap.size w w2) := on HB1.out hb2
  clear hb2
  generalize code (fa u) (fb u) (fc u) = m at *
  obtain ⟨X, hX⟩ : ∃ X, X = strOfNums [m / 256, m % 256] := ⟨_, rfl⟩
  rw [← hX]
  have hXs : X.size = 2 := by rw [hX]; rfl
  have hge : ∀ h : 0 < X.size, (128 : Int) ≤ ((X[0]'h).toNat : Int) := by
    subst hX
    intro h
    show (128 : Int) ≤ ((UInt8.ofNat (m / 256).toNat).toNat : Int)
    rw [UInt8.toNat_ofNat']
    omega
  clear hX
  go_wp2_with fail
  go_ret
  exact ⟨rfl, below_alloc HB2.out _⟩
set_option maxRecDepth 100000 in
theorem plain_low (u : Int) (A : Option Addr) (c : Nat) (l : List Int) (w : World) (ht : Tab w) (hC : Kd.C (Kd.int .u8) w A l.length l) (hlen : l.length ≤ 140737488351232) (h0 : 0 ≤ u) (h1 : u < 128) (h2 : u ≠ 92) : Calls Tryd.prog 8 #[.int .i32 u, .slice A l.length c] w fun e w' => e = .returned (.bool true) ∧ Below w.heap.size w w' := by
  have HT := Lib.hid ht
  have HS := Lib.hid (fun W => set_low u W h0 h1 h2)
  have HC := Lib.hid hC
  have HG := Lib.hid (GotIs.low u l h2 h0 h1)
  have n1 : ((u : Int) == 92) = false := beq_eq_false_iff_ne.2 h2
  have n2 : ((u : Int) == 8361) = false := beq_eq_false_iff_ne.2 (by omega)
  have n3 : u % 256 = u := by omega
  clear ht hC
  go_enter Tryd.func8, Tryd.ntmps8
  go_wp2_with fail
  refine (worksC _ HT.out).mono ?_
  rintro e w1 ⟨rfl, hb1⟩
  have HB1 : Hid (Below w.heap.size w w1) := hb1
  clear hb1
  go_wp2_with fail
  refine (HS.out _).mono ?_
  rintro e w2 ⟨rfl, hb2⟩
  have HB2 : Hid (Below w.heap.size w w2) := on HB1.out hb2
  clear hb2
  go_upto_region 9 with fail
  have BK := heap_alloc_new w2 (.cells #[.int .i64 0, .string (strOfNums [u]), .int .i64 0, .int .i64 0, .int .u32 0, .int .i32 0] 32)
  have BW : Hid (Below w.heap.size w (w2.alloc (.cells #[.int .i64 0, .string (strOfNums [u]), .int .i64 0, .int .i64 0, .int .u32 0, .int .i32 0] 32))) := below_alloc HB2.out _
  have e0 := blk_cell BK 0
  have e1 := blk_cell BK 1
  have e2 := blk_cell BK 2
  have e3 := blk_cell BK 3
  have e4 := blk_cell BK 4
  have e5 := blk_cell BK 5
  clear BK
  generalize w2.heap.size = g at *
  generalize w2.alloc (.cells #[.int .i64 0, .string (strOfNums [u]), .int .i64 0, .int .i64 0, .int .u32 0, .int .i32 0] 32) = W at *
  have hcv : (convert 35 9 (.slice (some ⟨W.heap.size, 0, none⟩) 1 1)).run Tryd.prog (W.alloc (.cells #[.int .u8 u] 5)) = .ok (.string (strOfNums [u])) (W.alloc (.cells #[.int .u8 u] 5)) := lit_str W [u] (by simp)
  have hown : Hid (((W.alloc (.cells #[.int .u8 u] 5)).alloc (.cells #[.int .u8 u] 5)).ownsRow w.heap.size 5 1 (.slice (some ⟨W.heap.size + 1, 0, none⟩) 1 1) 1 (nums .u8 [u])) := by
    have h := own_lit (W.alloc (.cells #[.int .u8 u] 5)) w.heap.size 5 .u8 [u] (by have := BW.out.size; simp; omega) (by simp)
    rw [show (W.alloc (.cells #[.int .u8 u] 5)).heap.size = W.heap.size + 1 by simp] at h
    exact h
  have BW2 : Hid (Below w.heap.size w ((W.alloc (.cells #[.int .u8 u] 5)).alloc (.cells #[.int .u8 u] 5))) := below_alloc (below_alloc BW.out _) _
  have hbs : Hid (w.heap.size ≤ ((W.alloc (.cells #[.int .u8 u] 5)).alloc (.cells #[.int .u8 u] 5)).heap.size) := BW2.out.size
  go_wp2_with (at_builtin; refine gate_guard (by first | rfl | kernel_rfl) ?_; refine print_append_row w.heap.size rfl (.tmp 39) (.tmp 40) 35 5 .u8 1 rfl Tryd.underlying35 info5 (by omega) (.slice (some ⟨W.heap.size + 1, 0, none⟩) 1 1) [u] l A l.length c rfl rfl hown.out (Kd.reads_of_C (enc := Value.int .u8) (d := (0 : Int)) (h1 := fun _ => rfl) (Kd.C_below HC.out BW2.out)) BW2.out hbs.out (by simp; omega) ?_; intro v1 w3 hown1 hb1 hg1 hat1; clear hg1 hat1; have HO3 : Hid (w3.ownsRow w.heap.size 5 1 v1 (u :: l).length (nums .u8 (u :: l))) := hown1; have HB3 := Lib.hid hb1; clear hown1 hb1)
  obtain ⟨A1, c1, rfl, hr1⟩ := own_reads HO3.out
  have HR1 : Hid (Kd.C (Kd.int .u8) w3 A1 (u :: l).length (u :: l)) := Kd.C_of_reads (d := (0 : Int)) hr1
  clear hr1 HO3
  refine (getC A1 c1 (u :: l) 0 1 1 u _ (HT.out.below HB3.out) HR1.out HG.out).mono ?_
  rintro e w4 ⟨rfl, hb4⟩
  have HB4 : Hid (Below w.heap.size w w4) := on HB3.out hb4
  clear hb4
  go_wp2_with fail
  go_ret
  exact ⟨rfl, HB4.out⟩
theorem plain_walk (w : World) (ht : Tab w) (u : Int) (hu : (Lit.int .i32 u).wf = true) (a : Option Addr) (len cap : Nat) (zs : List Int) (h : (a = none ∧ len = 0 ∧ cap = 0 ∧ zs = []) ∨ ∃ x, a = some x ∧ len ≤ cap ∧ cap ≤ maxLen ∧ zs.length = cap ∧ (∀ i, i < zs.length → w.cell? (x.add i) = some (.int .u8 (zs.getD i 0))) ∧ ∀ n ∈ zs, (Lit.int .u8 n).wf = true)
    (hl : len * 1 ≤ 140737488351232) : Calls Tryd.prog 8 #[.int .i32 u, .slice a len cap] w fun e w' => e = .returned (.bool true) ∧ Below w.heap.size w w' := by
  obtain ⟨l, rfl, hC, hc, hb⟩ := open_row h
  by_cases c1 : u = 92
  · subst c1
    exact plain_92 a cap _ w ht
  · by_cases c2 : u = 8361
    · subst c2
      exact plain_won a cap _ w ht
    · by_cases c3 : 0 ≤ u ∧ u < 128
      · exact plain_low u a cap l w ht hC (by omega) c3.1 c3.2 c1
      · by_cases c4 : 44032 ≤ u ∧ u ≤ 55203
        · exact plain_syl u a cap _ w ht c4
        · exact plain_none u a cap _ w ht hu c2 c3 c4
end Go.Proofs.YtdihghjjinlaaaaDoor.J
