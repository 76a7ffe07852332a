/- johab.Get, walked. -/
import Derived.Test.YtdihghjjinlaaaaDoorJUnp
namespace Go.Proofs.YtdihghjjinlaaaaDoor.J
open Go.RowKit Go.Proofs.YtdihghjjinlaaaaDoorW.PrintWords Go.Proofs.YtdihghjjinlaaaaDoorW.PrintLast Go.Proofs.YtdihghjjinlaaaaDoorW.PrintMore
/-- Does a code begin with a byte? -/
def Bg (x : Int) : Prop := ∃ i : Nat, i < 256 ∧ Code (x * 256 + (i : Int))
theorem small_wf {n : Int} (h0 : 0 ≤ n) (h1 : n < 65536) : (Lit.int .i64 n).wf = true := by
  obtain ⟨m, rfl⟩ := Int.eq_ofNat_of_zero_le h0
  simp [Lit.wf, IntKind.min, IntKind.max, IntKind.signed, IntKind.bits]
  omega
set_option maxRecDepth 100000 in
theorem beginsC (x : Int) (w : World) (ht : Tab w) (h0 : 0 ≤ x) (h1 : x < 256) (h : Bg x) : Calls Tryd.prog 26 #[.int .u8 x] w fun e w' => e = .returned (.bool true) ∧ Drawn0 w w' := by
  have HT := Lib.hid ht
  obtain ⟨m, hm, hc⟩ := h
  have HC := Lib.hid hc
  clear ht hc
  go_enter Tryd.func26, Tryd.ntmps26
  go_wp2_with fail
  go_loopw [8] (fun a wr => ∃ k : Nat, k ≤ m ∧ a = .int .i64 (k : Int) ∧ Drawn0 w wr) (fun a _ => 300 - (intOf a).toNat)
  case atStart => exact ⟨0, by omega, rfl, Drawn0.refl _⟩
  case round =>
    obtain ⟨k, hk, rfl, hdr⟩ := hrel
    obtain ⟨⟨m0, rfl⟩⟩ := hdr
    have ho := or_add 8 (x * 256) (k : Int) (by omega) (by omega) (by omega) (by omega) (by omega) (by omega)
    by_cases hcd : Code (x * 256 + (k : Int))
    · have HCD := Lib.hid hcd
      clear hcd
      go_wp2_with fail
      refine (unpackD _ _ (tab_drewN HT.out _) HCD.out).mono ?_
      rintro e w2 ⟨rfl, hd2⟩
      obtain ⟨⟨m2, rfl⟩⟩ := hd2
      go_wp2_with fail
      go_ret
      exact ⟨rfl, ⟨⟨_, rfl⟩⟩⟩
    · have hkm : k ≠ m := fun e => hcd (by rw [e]; exact HC.out)
      have HCD : Hid (¬ Code (x * 256 + (k : Int))) := hcd
      have HW := Lib.hid (small_wf (n := x * 256 + (k : Int)) (by omega) (by omega))
      clear hcd
      go_wp2_with fail
      refine (unpackD_not _ _ (tab_drewN HT.out _) HW.out HCD.out).mono ?_
      rintro e w2 ⟨rfl, hd2⟩
      obtain ⟨⟨m2, rfl⟩⟩ := hd2
      go_wp2_with fail
      exact ⟨⟨k + 1, by omega, by go_num, ⟨⟨_, rfl⟩⟩⟩, by simp [intOf]; omega⟩
set_option maxRecDepth 100000 in
theorem beginsC_not (x : Int) (w : World) (ht : Tab w) (h0 : 0 ≤ x) (h1 : x < 256) (h : ¬ Bg x) : Calls Tryd.prog 26 #[.int .u8 x] w fun e w' => e = .returned (.bool false) ∧ Drawn0 w w' := by
  have HT := Lib.hid ht
  have HB : Hid (∀ k : Nat, k < 256 → ¬ Code (x * 256 + (k : Int))) := fun k hk hc => h ⟨k, hk, hc⟩
  clear ht h
  go_enter Tryd.func26, Tryd.ntmps26
  go_wp2_with fail
  go_loopw [8] (fun a wr => ∃ k : Nat, k ≤ 256 ∧ a = .int .i64 (k : Int) ∧ Drawn0 w wr) (fun a _ => 300 - (intOf a).toNat)
  case atStart => exact ⟨0, by omega, rfl, Drawn0.refl _⟩
  case round =>
    obtain ⟨k, hk, rfl, hdr⟩ := hrel
    obtain ⟨⟨m0, rfl⟩⟩ := hdr
    by_cases hlt : k < 256
    · have ho := or_add 8 (x * 256) (k : Int) (by omega) (by omega) (by omega) (by omega) (by omega) (by omega)
      have HW := Lib.hid (small_wf (n := x * 256 + (k : Int)) (by omega) (by omega))
      go_wp2_with fail
      refine (unpackD_not _ _ (tab_drewN HT.out _) HW.out (HB.out k hlt)).mono ?_
      rintro e w2 ⟨rfl, hd2⟩
      obtain ⟨⟨m2, rfl⟩⟩ := hd2
      go_wp2_with fail
      exact ⟨⟨k + 1, by omega, by go_num, ⟨⟨_, rfl⟩⟩⟩, by simp [intOf]; omega⟩
    · go_wp2_with fail
      go_ret
      exact ⟨rfl, ⟨⟨_, rfl⟩⟩⟩
set_option maxRecDepth 100000 in
theorem unpackedC (n : Int) (w : World) (ht : Tab w) (h : Code n) : Calls Tryd.prog 27 #[.int .i64 n] w fun e w' => e = .returned (.tuple #[.int .i64 (ua n), .int .i64 (ub n), .int .i64 (uc n)]) ∧ Drawn0 w w' := by
  have HT := Lib.hid ht
  have HC := Lib.hid h
  clear ht h
  go_enter Tryd.func27, Tryd.ntmps27
  go_wp2_with fail
  refine (unpackD n _ HT.out HC.out).mono ?_
  rintro e w1 ⟨rfl, hd1⟩
  obtain ⟨⟨m1, rfl⟩⟩ := hd1
  go_wp2_with fail
  go_ret3
  exact ⟨rfl, ⟨⟨_, rfl⟩⟩⟩
set_option maxRecDepth 100000 in
theorem unpackedC_not (n : Int) (w : World) (ht : Tab w) (hn : (Lit.int .i64 n).wf = true) (h : ¬ Code n) : Calls Tryd.prog 27 #[.int .i64 n] w fun e w' => e = .returned (.tuple #[.int .i64 (-1), .int .i64 (-1), .int .i64 (-1)]) ∧ Drawn0 w w' := by
  have HT := Lib.hid ht
  have HN := Lib.hid hn
  have HC : Hid (¬ Code n) := h
  clear ht h hn
  go_enter Tryd.func27, Tryd.ntmps27
  go_wp2_with fail
  refine (unpackD_not n _ HT.out HN.out HC.out).mono ?_
  rintro e w1 ⟨rfl, hd1⟩
  obtain ⟨⟨m1, rfl⟩⟩ := hd1
  go_wp2_with fail
  go_ret3
  exact ⟨rfl, ⟨⟨_, rfl⟩⟩⟩
abbrev Got := Int × Int × Int × Int
/-- What a step tells, as the machine holds it. -/
abbrev gotV (e n k u : Int) : Value := .agg #[.int .i64 e, .int .i64 n, .int .i64 k, .int .i32 u, .int .i32 0, .int .i64 0, .int .i64 0, .int .u32 0, .int .i32 0]
/-- What the first step of bytes is. -/
inductive GotIs : List Int → Int → Int → Int → Int → Prop
  | none : GotIs [] 1 0 0 0
  | won (t : List Int) : GotIs (92 :: t) 0 1 1 8361
  | low (a : Int) (t : List Int) (h : a ≠ 92) (h0 : 0 ≤ a) (h1 : a < 128) : GotIs (a :: t) 0 1 1 a
  | bad (a : Int) (t : List Int) (h : 128 ≤ a) (h1 : a < 256) (hb : ¬ Bg a) : GotIs (a :: t) 10 1 0 0
  | more (a : Int) (h : 128 ≤ a) (h1 : a < 256) (hb : Bg a) : GotIs [a] 1 0 0 0
  | two (a b : Int) (t : List Int) (h : 128 ≤ a) (h1 : a < 256) (h2 : 0 ≤ b) (h3 : b < 256) (hb : Bg a) (hc : Code (a * 256 + b)) : GotIs (a :: b :: t) 0 2 1 (syl (ua (a * 256 + b)) (ub (a * 256 + b)) (uc (a * 256 + b)))
  | ill (a b : Int) (t : List Int) (h : 128 ≤ a) (h1 : a < 256) (h2 : 0 ≤ b) (h3 : b < 256) (hb : Bg a) (hc : ¬ Code (a * 256 + b)) : GotIs (a :: b :: t) 10 2 0 0
theorem got_ex (l : List Int) (hl : ∀ x ∈ l, 0 ≤ x ∧ x < 256) : ∃ e n k u, GotIs l e n k u := by
  match l, hl with
  | [], _ => exact ⟨_, _, _, _, .none⟩
  | a :: t, hl =>
    have ha := hl a (by simp)
    by_cases c1 : a = 92
    · subst c1
      exact ⟨_, _, _, _, .won t⟩
    · by_cases c2 : a < 128
      · exact ⟨_, _, _, _, .low a t c1 ha.1 c2⟩
      · by_cases c3 : Bg a
        · match t, hl with
          | [], _ => exact ⟨_, _, _, _, .more a (by omega) ha.2 c3⟩
          | b :: t, hl =>
            have hb := hl b (by simp)
            by_cases c4 : Code (a * 256 + b)
            · exact ⟨_, _, _, _, .two a b t (by omega) ha.2 hb.1 hb.2 c3 c4⟩
            · exact ⟨_, _, _, _, .ill a b t (by omega) ha.2 hb.1 hb.2 c3 c4⟩
        · exact ⟨_, _, _, _, .bad a t (by omega) ha.2 c3⟩
theorem put9 {w : World} {g : Nat} {t : TypeId} {o0 o1 o2 o3 o4 o5 o6 o7 o8 : Value} (h : w.heap[g]? = some (.cells #[o0, o1, o2, o3, o4, o5, o6, o7, o8] t (0, 0))) (a0 a1 a2 a3 a4 a5 a6 a7 a8 : Value) :
    (((((((((w.setCell ⟨g, 0, none⟩ a0).setCell ⟨g, 1, none⟩ a1).setCell ⟨g, 2, none⟩ a2).setCell ⟨g, 3, none⟩ a3).setCell ⟨g, 4, none⟩ a4).setCell ⟨g, 5, none⟩ a5).setCell ⟨g, 6, none⟩ a6).setCell ⟨g, 7, none⟩ a7).setCell ⟨g, 8, none⟩ a8).heap[g]? = some (.cells #[a0, a1, a2, a3, a4, a5, a6, a7, a8] t (0, 0)) := by
  have h0 : (w.setCell ⟨g, 0, none⟩ a0).heap[g]? = some (.cells #[a0, o1, o2, o3, o4, o5, o6, o7, o8] t (0, 0)) := blk_set h 0 a0
  have h1 : ((w.setCell ⟨g, 0, none⟩ a0).setCell ⟨g, 1, none⟩ a1).heap[g]? = some (.cells #[a0, a1, o2, o3, o4, o5, o6, o7, o8] t (0, 0)) := blk_set h0 1 a1
  have h2 : (((w.setCell ⟨g, 0, none⟩ a0).setCell ⟨g, 1, none⟩ a1).setCell ⟨g, 2, none⟩ a2).heap[g]? = some (.cells #[a0, a1, a2, o3, o4, o5, o6, o7, o8] t (0, 0)) := blk_set h1 2 a2
  have h3 : ((((w.setCell ⟨g, 0, none⟩ a0).setCell ⟨g, 1, none⟩ a1).setCell ⟨g, 2, none⟩ a2).setCell ⟨g, 3, none⟩ a3).heap[g]? = some (.cells #[a0, a1, a2, a3, o4, o5, o6, o7, o8] t (0, 0)) := blk_set h2 3 a3
  have h4 : (((((w.setCell ⟨g, 0, none⟩ a0).setCell ⟨g, 1, none⟩ a1).setCell ⟨g, 2, none⟩ a2).setCell ⟨g, 3, none⟩ a3).setCell ⟨g, 4, none⟩ a4).heap[g]? = some (.cells #[a0, a1, a2, a3, a4, o5, o6, o7, o8] t (0, 0)) := blk_set h3 4 a4
  have h5 : ((((((w.setCell ⟨g, 0, none⟩ a0).setCell ⟨g, 1, none⟩ a1).setCell ⟨g, 2, none⟩ a2).setCell ⟨g, 3, none⟩ a3).setCell ⟨g, 4, none⟩ a4).setCell ⟨g, 5, none⟩ a5).heap[g]? = some (.cells #[a0, a1, a2, a3, a4, a5, o6, o7, o8] t (0, 0)) := blk_set h4 5 a5
  have h6 : (((((((w.setCell ⟨g, 0, none⟩ a0).setCell ⟨g, 1, none⟩ a1).setCell ⟨g, 2, none⟩ a2).setCell ⟨g, 3, none⟩ a3).setCell ⟨g, 4, none⟩ a4).setCell ⟨g, 5, none⟩ a5).setCell ⟨g, 6, none⟩ a6).heap[g]? = some (.cells #[a0, a1, a2, a3, a4, a5, a6, o7, o8] t (0, 0)) := blk_set h5 6 a6
  have h7 : ((((((((w.setCell ⟨g, 0, none⟩ a0).setCell ⟨g, 1, none⟩ a1).setCell ⟨g, 2, none⟩ a2).setCell ⟨g, 3, none⟩ a3).setCell ⟨g, 4, none⟩ a4).setCell ⟨g, 5, none⟩ a5).setCell ⟨g, 6, none⟩ a6).setCell ⟨g, 7, none⟩ a7).heap[g]? = some (.cells #[a0, a1, a2, a3, a4, a5, a6, a7, o8] t (0, 0)) := blk_set h6 7 a7
  have h8 : (((((((((w.setCell ⟨g, 0, none⟩ a0).setCell ⟨g, 1, none⟩ a1).setCell ⟨g, 2, none⟩ a2).setCell ⟨g, 3, none⟩ a3).setCell ⟨g, 4, none⟩ a4).setCell ⟨g, 5, none⟩ a5).setCell ⟨g, 6, none⟩ a6).setCell ⟨g, 7, none⟩ a7).setCell ⟨g, 8, none⟩ a8).heap[g]? = some (.cells #[a0, a1, a2, a3, a4, a5, a6, a7, a8] t (0, 0)) := blk_set h7 8 a8
  exact h8
theorem below9 {B : Nat} {w0 w : World} (h : Below B w0 w) {g : Nat} (hg : B ≤ g) (a0 a1 a2 a3 a4 a5 a6 a7 a8 : Value) :
    Below B w0 (((((((((w.setCell ⟨g, 0, none⟩ a0).setCell ⟨g, 1, none⟩ a1).setCell ⟨g, 2, none⟩ a2).setCell ⟨g, 3, none⟩ a3).setCell ⟨g, 4, none⟩ a4).setCell ⟨g, 5, none⟩ a5).setCell ⟨g, 6, none⟩ a6).setCell ⟨g, 7, none⟩ a7).setCell ⟨g, 8, none⟩ a8) := by
  have h6 := below6 h hg a0 a1 a2 a3 a4 a5
  have h7 := h6.setCell (p := ⟨g, 6, none⟩) hg a6
  have h8 := h7.setCell (p := ⟨g, 7, none⟩) hg a7
  exact h8.setCell (p := ⟨g, 8, none⟩) hg a8
abbrev gotZ' : Obj := .cells #[.int .i64 0, .int .i64 0, .int .i64 0, .int .i32 0, .int .i32 0, .int .i64 0, .int .i64 0, .int .u32 0, .int .i32 0] 37 (0, 0)
abbrev gotZ : Obj := .cells #[.int .i64 0, .int .i64 0, .int .i64 0, .int .i32 0, .int .i32 0, .int .i64 0, .int .i64 0, .int .u32 0, .int .i32 0] 37
theorem tab_alloc {W : World} (h : Tab W) (o : Obj) : Tab (W.alloc o) := h.below (below_alloc (Below.refl _ _) o)
theorem quietly {f : Nat} {args : Array Value} {W : World} {v : Value} (h : Calls Tryd.prog f args W fun e w' => e = .returned v ∧ Drawn0 W w') : Calls Tryd.prog f args W fun e w' => e = .returned v ∧ ∃ m, w' = W.drewN m :=
  h.mono fun _ _ ⟨h1, ⟨⟨m, hm⟩⟩⟩ => ⟨h1, m, hm⟩
set_option maxRecDepth 100000 in
theorem get_none (A : Option Addr) (c : Nat) (w : World) : Calls Tryd.prog 15 #[.slice A 0 c] w fun e w' => e = .returned (gotV 1 0 0 0) ∧ Below w.heap.size w w' := by
  go_enter Tryd.func15, Tryd.ntmps15
  go_wp2_with fail
  refine bodyPost_ret (results_cell_row rfl _ _ w.heap.size 37 #[.int .i64 1, .int .i64 0, .int .i64 0, .int .i32 0, .int .i32 0, .int .i64 0, .int .i64 0, .int .u32 0, .int .i32 0] (0, 0) _ rfl (heap_alloc_new _ _) Tryd.underlying37 rfl (by kernel_rfl)) rfl ?_
  exact ⟨rfl, below_alloc (Below.refl _ _) _⟩
set_option maxRecDepth 100000 in
theorem get_one (a0 : Addr) (n c : Nat) (x u : Int) (w : World) (hn : 0 < n) (hx : w.cell? a0 = some (.int .u8 x)) (hlt : a0.block < w.heap.size) (h : (x = 92 ∧ u = 8361) ∨ (x ≠ 92 ∧ 0 ≤ x ∧ x < 128 ∧ u = x)) : Calls Tryd.prog 15 #[.slice (some a0) n c] w fun e w' => e = .returned (gotV 0 1 1 u) ∧ Below w.heap.size w w' := by
  have hz : ((n : Int) == 0) = false := beq_eq_false_iff_ne.2 (by omega)
  have hi : (0 : Int) < (n : Int) := by omega
  have q0 : (w.alloc gotZ).cell? a0 = some (.int .u8 x) := ((below_alloc (Below.refl _ w) _).cell (p := a0) hlt).trans hx
  rcases h with ⟨rfl, rfl⟩ | ⟨h1, h2, h3, rfl⟩
  · go_enter Tryd.func15, Tryd.ntmps15
    go_wp2_with fail
    refine bodyPost_ret (results_cell_row rfl _ _ w.heap.size 37 #[.int .i64 0, .int .i64 1, .int .i64 1, .int .i32 8361, .int .i32 0, .int .i64 0, .int .i64 0, .int .u32 0, .int .i32 0] (0, 0) _ rfl (heap_alloc_new _ _) Tryd.underlying37 rfl (by kernel_rfl)) rfl ?_
    exact ⟨rfl, below_alloc (Below.refl _ _) _⟩
  · have h1b : ((u : Int) == 92) = false := beq_eq_false_iff_ne.2 h1
    go_enter Tryd.func15, Tryd.ntmps15
    go_wp2_with fail
    refine bodyPost_ret (results_cell_row rfl _ _ w.heap.size 37 #[.int .i64 0, .int .i64 1, .int .i64 1, .int .i32 u, .int .i32 0, .int .i64 0, .int .i64 0, .int .u32 0, .int .i32 0] (0, 0) _ rfl (heap_alloc_new _ _) Tryd.underlying37 rfl (by kernel_rfl)) rfl ?_
    exact ⟨rfl, below_alloc (Below.refl _ _) _⟩
set_option maxRecDepth 100000 in
theorem get_bad (a0 : Addr) (n c : Nat) (x : Int) (w : World) (ht : Tab w) (hn : 0 < n) (hx : w.cell? a0 = some (.int .u8 x)) (hlt : a0.block < w.heap.size) (h1 : 128 ≤ x) (h2 : x < 256) (hb : ¬ Bg x) : Calls Tryd.prog 15 #[.slice (some a0) n c] w fun e w' => e = .returned (gotV 10 1 0 0) ∧ Below w.heap.size w w' := by
  have hz : ((n : Int) == 0) = false := beq_eq_false_iff_ne.2 (by omega)
  have hi : (0 : Int) < (n : Int) := by omega
  have q0 : (w.alloc gotZ).cell? a0 = some (.int .u8 x) := ((below_alloc (Below.refl _ w) _).cell (p := a0) hlt).trans hx
  have h1b : ((x : Int) == 92) = false := beq_eq_false_iff_ne.2 (by omega)
  have HT := Lib.hid ht
  have HB : Hid (¬ Bg x) := hb
  clear ht hb
  go_enter Tryd.func15, Tryd.ntmps15
  go_wp2_with fail
  refine (beginsC_not x _ (tab_alloc HT.out _) (by omega) h2 HB.out).mono ?_
  rintro e w1 ⟨rfl, hd1⟩
  obtain ⟨⟨m1, rfl⟩⟩ := hd1
  go_wp2_with fail
  refine bodyPost_ret (results_cell_row rfl _ _ w.heap.size 37 _ (0, 0) _ rfl (put9 (((pw_below_drewN (Below.refl (w.heap.size + 1) (w.alloc gotZ)) _).block w.heap.size (by omega)).trans (heap_alloc_new _ _)) _ _ _ _ _ _ _ _ _) Tryd.underlying37 rfl (by kernel_rfl)) rfl ?_
  exact ⟨rfl, below9 (pw_below_drewN (below_alloc (Below.refl _ _) _) _) (Nat.le_refl _) _ _ _ _ _ _ _ _ _⟩
set_option maxRecDepth 100000 in
theorem get_more (a0 : Addr) (c : Nat) (x : Int) (w : World) (ht : Tab w) (hx : w.cell? a0 = some (.int .u8 x)) (hlt : a0.block < w.heap.size) (h1 : 128 ≤ x) (h2 : x < 256) (hb : Bg x) : Calls Tryd.prog 15 #[.slice (some a0) 1 c] w fun e w' => e = .returned (gotV 1 0 0 0) ∧ Below w.heap.size w w' := by
  have q0 : (w.alloc gotZ).cell? a0 = some (.int .u8 x) := ((below_alloc (Below.refl _ w) _).cell (p := a0) hlt).trans hx
  have h1b : ((x : Int) == 92) = false := beq_eq_false_iff_ne.2 (by omega)
  have HT := Lib.hid ht
  have HB : Hid (Bg x) := hb
  clear ht hb
  go_enter Tryd.func15, Tryd.ntmps15
  go_wp2_with fail
  refine (beginsC x _ (tab_alloc HT.out _) (by omega) h2 HB.out).mono ?_
  rintro e w1 ⟨rfl, hd1⟩
  obtain ⟨⟨m1, rfl⟩⟩ := hd1
  go_wp2_with fail
  refine bodyPost_ret (results_cell_row rfl _ _ w.heap.size 37 _ (0, 0) _ rfl (put9 (((pw_below_drewN (Below.refl (w.heap.size + 1) (w.alloc gotZ)) _).block w.heap.size (by omega)).trans (heap_alloc_new _ _)) _ _ _ _ _ _ _ _ _) Tryd.underlying37 rfl (by kernel_rfl)) rfl ?_
  exact ⟨rfl, below9 (pw_below_drewN (below_alloc (Below.refl _ _) _) _) (Nat.le_refl _) _ _ _ _ _ _ _ _ _⟩
set_option maxRecDepth 100000 in
theorem get_two (a0 : Addr) (n c : Nat) (x y : Int) (w : World) (ht : Tab w) (hn : 1 < n) (hx : w.cell? a0 = some (.int .u8 x)) (hy : w.cell? { block := a0.block, off := a0.off + 1 } = some (.int .u8 y)) (hlt : a0.block < w.heap.size) (h1 : 128 ≤ x) (h2 : x < 256) (h3 : 0 ≤ y) (h4 : y < 256) (hb : Bg x) (hc : Code (x * 256 + y)) :
    Calls Tryd.prog 15 #[.slice (some a0) n c] w fun e w' => e = .returned (gotV 0 2 1 (syl (ua (x * 256 + y)) (ub (x * 256 + y)) (uc (x * 256 + y)))) ∧ Below w.heap.size w w' := by
  have hz : ((n : Int) == 0) = false := beq_eq_false_iff_ne.2 (by omega)
  have hi : (0 : Int) < (n : Int) := by omega
  have q0 : (w.alloc gotZ).cell? a0 = some (.int .u8 x) := ((below_alloc (Below.refl _ w) _).cell (p := a0) hlt).trans hx
  have h1b : ((x : Int) == 92) = false := beq_eq_false_iff_ne.2 (by omega)
  have hz1 : ((n : Int) == 1) = false := beq_eq_false_iff_ne.2 (by omega)
  have hi1 : (1 : Int) < (n : Int) := by omega
  have hn0 : 0 < n := by omega
  have q1 : (w.alloc gotZ).cell? { block := a0.block, off := a0.off + 1 } = some (.int .u8 y) := ((below_alloc (Below.refl _ w) _).cell (p := { block := a0.block, off := a0.off + 1 }) hlt).trans hy
  have HT := Lib.hid ht
  have HB : Hid (Bg x) := hb
  have HC := Lib.hid hc
  have ho := or_add 8 (x * 256) y (by omega) (by omega) (by omega) (by omega) (by omega) (by omega)
  clear ht hb hc
  go_enter Tryd.func15, Tryd.ntmps15
  go_wp2_with fail
  refine (beginsC x _ (tab_alloc HT.out _) (by omega) h2 HB.out).mono ?_
  rintro e w1 ⟨rfl, hd1⟩
  obtain ⟨⟨m1, rfl⟩⟩ := hd1
  have hx1 : IntKind.i64.wrap x = x := by rw [IntKind.wrap_i64]; omega
  have hx2 : IntKind.i64.wrap (x * 256) = x * 256 := by rw [IntKind.wrap_i64]; omega
  have hy1 : IntKind.i64.wrap y = y := by rw [IntKind.wrap_i64]; omega
  have TW : Hid (Tab ((w.alloc gotZ).drewN m1)) := tab_drewN (tab_alloc HT.out _) _
  have BW : Hid (Below w.heap.size w ((w.alloc gotZ).drewN m1)) := pw_below_drewN (below_alloc (Below.refl _ _) _) _
  have BK : ((w.alloc gotZ).drewN m1).heap[w.heap.size]? = some gotZ' := ((pw_below_drewN (Below.refl (w.heap.size + 1) (w.alloc gotZ)) _).block w.heap.size (by omega)).trans (heap_alloc_new _ _)
  have r0 : ((w.alloc gotZ).drewN m1).cell? a0 = some (.int .u8 x) := (BW.out.cell (p := a0) hlt).trans hx
  have r1 : ((w.alloc gotZ).drewN m1).cell? { block := a0.block, off := a0.off + 1 } = some (.int .u8 y) := (BW.out.cell (p := { block := a0.block, off := a0.off + 1 }) hlt).trans hy
  clear q0 q1
  generalize (w.alloc gotZ).drewN m1 = W at *
  have e0 := blk_cell BK 0
  have e1 := blk_cell BK 1
  have e2 := blk_cell BK 2
  have e3 := blk_cell BK 3
  have e4 := blk_cell BK 4
  have e5 := blk_cell BK 5
  have e6 := blk_cell BK 6
  have e7 := blk_cell BK 7
  have e8 := blk_cell BK 8
  have f0 := blk_frozen BK 0
  have f1 := blk_frozen BK 1
  have f2 := blk_frozen BK 2
  have f3 := blk_frozen BK 3
  have f4 := blk_frozen BK 4
  have f5 := blk_frozen BK 5
  have f6 := blk_frozen BK 6
  have f7 := blk_frozen BK 7
  have f8 := blk_frozen BK 8
  have HBK := Lib.hid BK
  clear BK
  go_wp2_with fail
  go_quiet (first | (go_at_call 27; exact Calls.quiet_of (quietly (unpackedC _ _ (tab_drewN TW.out _) HC.out))) | (go_at_call 18; exact Calls.quiet_of (quietly (sylC _ HC.out.2))))
  go_wp2_with fail
  refine bodyPost_ret (results_cell_row rfl _ _ w.heap.size 37 _ (0, 0) _ rfl (put9 (((pw_below_drewN (Below.refl (w.heap.size + 1) W) _).block w.heap.size (by omega)).trans HBK.out) _ _ _ _ _ _ _ _ _) Tryd.underlying37 rfl (by kernel_rfl)) rfl ?_
  exact ⟨rfl, below9 (pw_below_drewN BW.out _) (Nat.le_refl _) _ _ _ _ _ _ _ _ _⟩
set_option maxRecDepth 100000 in
theorem get_ill (a0 : Addr) (n c : Nat) (x y : Int) (w : World) (ht : Tab w) (hn : 1 < n) (hx : w.cell? a0 = some (.int .u8 x)) (hy : w.cell? { block := a0.block, off := a0.off + 1 } = some (.int .u8 y)) (hlt : a0.block < w.heap.size) (h1 : 128 ≤ x) (h2 : x < 256) (h3 : 0 ≤ y) (h4 : y < 256) (hb : Bg x) (hc : ¬ Code (x * 256 + y)) :
    Calls Tryd.prog 15 #[.slice (some a0) n c] w fun e w' => e = .returned (gotV 10 2 0 0) ∧ Below w.heap.size w w' := by
  have hz : ((n : Int) == 0) = false := beq_eq_false_iff_ne.2 (by omega)
  have hi : (0 : Int) < (n : Int) := by omega
  have q0 : (w.alloc gotZ).cell? a0 = some (.int .u8 x) := ((below_alloc (Below.refl _ w) _).cell (p := a0) hlt).trans hx
  have h1b : ((x : Int) == 92) = false := beq_eq_false_iff_ne.2 (by omega)
  have hz1 : ((n : Int) == 1) = false := beq_eq_false_iff_ne.2 (by omega)
  have hi1 : (1 : Int) < (n : Int) := by omega
  have hn0 : 0 < n := by omega
  have q1 : (w.alloc gotZ).cell? { block := a0.block, off := a0.off + 1 } = some (.int .u8 y) := ((below_alloc (Below.refl _ w) _).cell (p := { block := a0.block, off := a0.off + 1 }) hlt).trans hy
  have HT := Lib.hid ht
  have HB : Hid (Bg x) := hb
  have HC : Hid (¬ Code (x * 256 + y)) := hc
  have HW := Lib.hid (small_wf (n := x * 256 + y) (by omega) (by omega))
  have ho := or_add 8 (x * 256) y (by omega) (by omega) (by omega) (by omega) (by omega) (by omega)
  clear ht hb hc
  go_enter Tryd.func15, Tryd.ntmps15
  go_wp2_with fail
  refine (beginsC x _ (tab_alloc HT.out _) (by omega) h2 HB.out).mono ?_
  rintro e w1 ⟨rfl, hd1⟩
  obtain ⟨⟨m1, rfl⟩⟩ := hd1
  have hx1 : IntKind.i64.wrap x = x := by rw [IntKind.wrap_i64]; omega
  have hx2 : IntKind.i64.wrap (x * 256) = x * 256 := by rw [IntKind.wrap_i64]; omega
  have hy1 : IntKind.i64.wrap y = y := by rw [IntKind.wrap_i64]; omega
  have TW : Hid (Tab ((w.alloc gotZ).drewN m1)) := tab_drewN (tab_alloc HT.out _) _
  have BW : Hid (Below w.heap.size w ((w.alloc gotZ).drewN m1)) := pw_below_drewN (below_alloc (Below.refl _ _) _) _
  have BK : ((w.alloc gotZ).drewN m1).heap[w.heap.size]? = some gotZ' := ((pw_below_drewN (Below.refl (w.heap.size + 1) (w.alloc gotZ)) _).block w.heap.size (by omega)).trans (heap_alloc_new _ _)
  have r0 : ((w.alloc gotZ).drewN m1).cell? a0 = some (.int .u8 x) := (BW.out.cell (p := a0) hlt).trans hx
  have r1 : ((w.alloc gotZ).drewN m1).cell? { block := a0.block, off := a0.off + 1 } = some (.int .u8 y) := (BW.out.cell (p := { block := a0.block, off := a0.off + 1 }) hlt).trans hy
  clear q0 q1
  generalize (w.alloc gotZ).drewN m1 = W at *
  have e0 := blk_cell BK 0
  have e1 := blk_cell BK 1
  have e2 := blk_cell BK 2
  have e3 := blk_cell BK 3
  have e4 := blk_cell BK 4
  have e5 := blk_cell BK 5
  have e6 := blk_cell BK 6
  have e7 := blk_cell BK 7
  have e8 := blk_cell BK 8
  have f0 := blk_frozen BK 0
  have f1 := blk_frozen BK 1
  have f2 := blk_frozen BK 2
  have f3 := blk_frozen BK 3
  have f4 := blk_frozen BK 4
  have f5 := blk_frozen BK 5
  have f6 := blk_frozen BK 6
  have f7 := blk_frozen BK 7
  have f8 := blk_frozen BK 8
  have HBK := Lib.hid BK
  clear BK
  go_wp2_with fail
  go_quiet (first | (go_at_call 27; exact Calls.quiet_of (quietly (unpackedC_not _ _ (tab_drewN TW.out _) HW.out HC.out))) | (go_at_call 18; exact Calls.quiet_of (quietly (sylC_not _ (show ¬ Ok (-1) (-1) (-1) by decide)))))
  go_wp2_with fail
  refine bodyPost_ret (results_cell_row rfl _ _ w.heap.size 37 _ (0, 0) _ rfl (put9 (((pw_below_drewN (Below.refl (w.heap.size + 1) W) _).block w.heap.size (by omega)).trans HBK.out) _ _ _ _ _ _ _ _ _) Tryd.underlying37 rfl (by kernel_rfl)) rfl ?_
  exact ⟨rfl, below9 (pw_below_drewN BW.out _) (Nat.le_refl _) _ _ _ _ _ _ _ _ _⟩
theorem reads_at {w : World} {A : Option Addr} {l : List Int} (hC : Kd.C (Kd.int .u8) w A l.length l) (i : Nat) (hi : i < l.length) : ∃ a, A = some a ∧ w.cell? (a.add i) = some (.int .u8 (rd l (i : Int))) := by
  have h := (show ReadsInt w .u8 A l.length l from Kd.reads_of_C (enc := Value.int .u8) (d := (0 : Int)) (h1 := fun _ => rfl) hC).at_ (i : Int) (by omega) (by omega)
  rwa [Int.toNat_natCast] at h
theorem cell_lt {w : World} {p : Addr} {v : Value} (h : w.cell? p = some v) : p.block < w.heap.size := by
  rcases Nat.lt_or_ge p.block w.heap.size with h1 | h1
  · exact h1
  · exfalso
    obtain ⟨b, o, s⟩ := p
    simp [World.cell?, Array.getElem?_eq_none h1] at h
theorem getC (A : Option Addr) (c : Nat) (l : List Int) (e n k u : Int) (w : World) (ht : Tab w) (hC : Kd.C (Kd.int .u8) w A l.length l) (h : GotIs l e n k u) :
    Calls Tryd.prog 15 #[.slice A l.length c] w fun e' w' => e' = .returned (gotV e n k u) ∧ Below w.heap.size w w' := by
  have z : ∀ a : Addr, a.add 0 = a := fun a => by cases a; simp [Addr.add]
  cases h with
  | none => exact get_none A c w
  | won t =>
    obtain ⟨a, rfl, h0⟩ := reads_at hC 0 (by simp)
    rw [z] at h0
    exact get_one a _ c 92 8361 w (by simp) h0 (cell_lt h0) (.inl ⟨rfl, rfl⟩)
  | low x t h1 h2 h3 =>
    obtain ⟨a, rfl, h0⟩ := reads_at hC 0 (by simp)
    rw [z] at h0
    exact get_one a _ c u u w (by simp) h0 (cell_lt h0) (.inr ⟨h1, h2, h3, rfl⟩)
  | bad x t h1 h2 hb =>
    obtain ⟨a, rfl, h0⟩ := reads_at hC 0 (by simp)
    rw [z] at h0
    exact get_bad a _ c x w ht (by simp) h0 (cell_lt h0) h1 h2 hb
  | more x h1 h2 hb =>
    obtain ⟨a, rfl, h0⟩ := reads_at hC 0 (by simp)
    rw [z] at h0
    exact get_more a c x w ht h0 (cell_lt h0) h1 h2 hb
  | two x y t h1 h2 h3 h4 hb hc =>
    obtain ⟨a, rfl, h0⟩ := reads_at hC 0 (by simp)
    obtain ⟨a', e', h5⟩ := reads_at hC 1 (by simp)
    cases e'
    rw [z] at h0
    exact get_two a _ c x y w ht (by simp) h0 h5 (cell_lt h0) h1 h2 h3 h4 hb hc
  | ill x y t h1 h2 h3 h4 hb hc =>
    obtain ⟨a, rfl, h0⟩ := reads_at hC 0 (by simp)
    obtain ⟨a', e', h5⟩ := reads_at hC 1 (by simp)
    cases e'
    rw [z] at h0
    exact get_ill a _ c x y w ht (by simp) h0 h5 (cell_lt h0) h1 h2 h3 h4 hb hc
end Go.Proofs.YtdihghjjinlaaaaDoor.J
