/- A text of UTF-8 gone through unit by unit: what it comes to, plainly; utf8.Valid, utf8.Scalars and the reference's Scalars come to it. -/
import Derived.Test.YtaogccmbdmheeaaU8Passes
import Derived.Deep.QuietTactic
import Derived.BigQuiet
namespace Go.Proofs.Ytaogccmbdmheeaa.U8
open Go.RowKit Go.Proofs.YtaogccmbdmheeaaW.PrintWords Go.Proofs.YtaogccmbdmheeaaW.PrintLast Go.Proofs.YtaogccmbdmheeaaW.PrintMore
/-- The scalars, how many bytes they are, and the error that ends it (0: none). -/
def scan : Nat → List Int → List Int × Nat × Int
  | 0, _ => ([], 0, 0)
  | _ + 1, [] => ([], 0, 0)
  | f + 1, a :: t => if (dec (a :: t)).1 = 0 then ((dec (a :: t)).2.2.2.1 :: (scan f ((a :: t).drop (dec (a :: t)).2.1.toNat)).1, (dec (a :: t)).2.1.toNat + (scan f ((a :: t).drop (dec (a :: t)).2.1.toNat)).2.1, (scan f ((a :: t).drop (dec (a :: t)).2.1.toNat)).2.2) else ([], 0, (dec (a :: t)).1)
theorem scan_nil (f : Nat) : scan f [] = ([], 0, 0) := by cases f <;> rfl
theorem scan_more {f : Nat} {r : List Int} (hr : r ≠ []) (h : dec r = more) : scan (f + 1) r = ([], 0, 1) := by
  match r, hr with
  | a :: t, _ => rw [scan, h]; rfl
theorem scan_bad {f n : Nat} {r : List Int} (hr : r ≠ []) (h : dec r = bad n) : scan (f + 1) r = ([], 0, 10) := by
  match r, hr with
  | a :: t, _ => rw [scan, h]; rfl
theorem scan_good {f : Nat} {u : Int} (t : List Int) (hu : Scal u) : scan (f + 1) (enc u ++ t) = (u :: (scan f t).1, (enc u).length + (scan f t).2.1, (scan f t).2.2) := by
  have h := dec_enc hu t
  obtain ⟨a, r, he, _⟩ := enc_head hu
  rw [he] at h ⊢
  rw [List.cons_append] at h ⊢
  rw [scan, h]
  have h1 : (good ((a :: r).length : Int) u).2.1.toNat = (a :: r).length := by simp [good]
  have h2 : (good ((a :: r).length : Int) u).1 = 0 := rfl
  have h3 : (good ((a :: r).length : Int) u).2.2.2.1 = u := rfl
  rw [if_pos h2, h1, h3, show (a :: (r ++ t)).drop (a :: r).length = t by simp]
def ValidEnd (w : World) (T : List Int × Nat × Int) (e : Ending) (w' : World) : Prop := e = .returned (.tuple #[.int .i64 (T.2.1 : Int), .bool (T.2.2 == 0)]) ∧ Below w.heap.size w w'
set_option maxRecDepth 100000 in
theorem validC (A : Option Addr) (c : Nat) (l : List Int) (w : World) (hC : Kd.C (Kd.int .u8) w A l.length l) (hc : l.length ≤ c) (hb : ∀ x ∈ l, Byte x) (hlen : l.length ≤ 140737488355328) :
    Calls Try.prog 16 #[.slice A l.length c] w (ValidEnd w (scan (l.length + 1) l)) := by
  have HC := Lib.hid hC
  have Hc := Lib.hid hc
  have Hb := Lib.hid hb
  clear hC hc hb
  obtain ⟨T, hT⟩ : ∃ T, T = scan (l.length + 1) l := ⟨_, rfl⟩
  rw [← hT]
  have HT := Lib.hid hT
  clear hT
  obtain ⟨i5, hi5, hz5⟩ := Option.map_eq_some_iff.1 info5p
  simp only [Prod.mk.injEq] at hz5
  have HI := Lib.hid (And.intro hi5 hz5.2.1)
  clear hi5 hz5
  go_enter Try.func16, Try.ntmps16
  go_wp2_with fail
  go_loopw [4] (fun a wr => ∃ k f : Nat, k ≤ l.length ∧ a = .int .i64 (k : Int) ∧ l.length < f + k ∧ Hid (k + (scan f (l.drop k)).2.1 = T.2.1 ∧ (scan f (l.drop k)).2.2 = T.2.2) ∧ Below w.heap.size w wr) (fun a _ => l.length - (intOf a).toNat)
  case atStart => exact ⟨0, l.length + 1, by omega, rfl, by omega, by rw [HT.out]; exact ⟨by simp, rfl⟩, Below.refl _ _⟩
  case round =>
    obtain ⟨k, f, hk, rfl, hf, HS, hba⟩ := hrel
    have HBA := Lib.hid hba
    clear hba
    have hle : (k : Int) ≤ (l.length : Int) := by omega
    obtain ⟨A7, hcut, hread, hc7⟩ := print_cut_int (P := Try.prog) (k := .u8) 30 5 Try.underlying30 HI.out.1 HI.out.2 A c l (k : Int) (by omega) hle Hc.out
    obtain ⟨c7, hc7e⟩ : ∃ c7, c7 = c - (k : Int).toNat := ⟨_, rfl⟩
    obtain ⟨y, hy⟩ : ∃ y, y = l.drop (k : Int).toNat := ⟨_, rfl⟩
    rw [← hy] at hcut hread hc7
    rw [← hc7e] at hcut hc7
    rw [Int.toNat_natCast] at hy
    have HS2 : Hid (k + (scan f y).2.1 = T.2.1 ∧ (scan f y).2.2 = T.2.2) := by rw [hy]; exact HS.out
    have HY := Lib.hid hy
    have HYL : Hid (y.length = l.length - k) := by
      show y.length = _
      rw [hy, List.length_drop]
    have HRD7 : Hid (Kd.C (Kd.int .u8) wr A7 y.length y) := Kd.C_of_reads (d := (0 : Int)) (hread wr (Kd.reads_of_C (enc := Value.int .u8) (d := (0 : Int)) (h1 := fun _ => rfl) (Kd.C_below HC.out HBA.out)))
    have HC7 := Lib.hid hc7
    have HBY7 : Hid (∀ x ∈ y, Byte x) := fun x hx => Hb.out x (List.mem_of_mem_drop (by rw [← HY.out]; exact hx))
    clear hread hc7 hle hy hc7e HS
    by_cases hlt : k < l.length
    · have hne : Hid (y ≠ []) := fun h => by have := HYL.out; rw [h] at this; simp at this; omega
      obtain ⟨f, rfl⟩ : ∃ g, f = g + 1 := ⟨f - 1, by omega⟩
      rcases dec_cases y HBY7.out with ⟨hd, _⟩ | ⟨n, hn1, hn2, hn3, hd⟩ | ⟨u, t, hu, hyt, hd⟩
      · have hs := scan_more (f := f) hne.out hd
        have HR : Hid (k = T.2.1 ∧ T.2.2 = 1) := by
          have := HS2.out
          rw [hs] at this
          exact ⟨this.1, this.2.symm⟩
        have HD := Lib.hid hd
        clear hs hd HS2
        go_wp2_with fail
        refine (getC A7 c7 y _ _ _ _ _ _ _ _ _ _ HRD7.out HC7.out HBY7.out HD.out).mono ?_
        rintro e w6 ⟨rfl, hb6⟩
        have HBA6 : Hid (Below w.heap.size w w6) := on HBA.out hb6
        clear hb6 hcut
        go_wp2_with fail
        go_ret2
        exact ⟨by rw [← HR.out.1, HR.out.2]; rfl, below_alloc HBA6.out _⟩
      · have hs := scan_bad (f := f) hne.out hd
        have HR : Hid (k = T.2.1 ∧ T.2.2 = 10) := by
          have := HS2.out
          rw [hs] at this
          exact ⟨this.1, this.2.symm⟩
        have HD := Lib.hid hd
        clear hs hd HS2 hn1 hn2 hn3
        go_wp2_with fail
        refine (getC A7 c7 y _ _ _ _ _ _ _ _ _ _ HRD7.out HC7.out HBY7.out HD.out).mono ?_
        rintro e w6 ⟨rfl, hb6⟩
        have HBA6 : Hid (Below w.heap.size w w6) := on HBA.out hb6
        clear hb6 hcut
        go_wp2_with fail
        go_ret2
        exact ⟨by rw [← HR.out.1, HR.out.2]; rfl, below_alloc HBA6.out _⟩
      · have hn := enc_len_bd u
        have hyl : y.length = (enc u).length + t.length := by rw [hyt]; exact List.length_append
        have hkn : k + (enc u).length ≤ l.length := by have := HYL.out; omega
        have HS3 : Hid (k + (enc u).length + (scan f (l.drop (k + (enc u).length))).2.1 = T.2.1 ∧ (scan f (l.drop (k + (enc u).length))).2.2 = T.2.2) := by
          have h2 := HS2.out
          have ht : l.drop (k + (enc u).length) = t := by
            rw [← List.drop_drop, ← HY.out, hyt, List.drop_left]
          rw [hyt, scan_good t hu] at h2
          rw [ht]
          exact ⟨by rw [Nat.add_assoc]; exact h2.1, h2.2⟩
        obtain ⟨n, hne⟩ : ∃ n, n = (enc u).length := ⟨_, rfl⟩
        rw [← hne] at hn hkn HS3 hd
        have HD := Lib.hid hd
        clear hd hyl hyt HS2 hne
        go_wp2_with fail
        refine (getC A7 c7 y _ _ _ _ _ _ _ _ _ _ HRD7.out HC7.out HBY7.out HD.out).mono ?_
        rintro e w6 ⟨rfl, hb6⟩
        have HBA6 : Hid (Below w.heap.size w w6) := on HBA.out hb6
        clear hb6 hcut
        go_wp2_with fail
        exact ⟨⟨k + n, f, hkn, by go_num, by omega, HS3, below_alloc HBA6.out _⟩, by simp [intOf]; omega⟩
    · have hkl : k = l.length := by omega
      have HR : Hid (k = T.2.1 ∧ T.2.2 = 0) := by
        have := HS2.out
        rw [HY.out, hkl, List.drop_length, scan_nil] at this
        exact ⟨by rw [hkl]; exact this.1, this.2.symm⟩
      clear hkl HS2 hcut
      go_wp2_with fail
      go_ret2
      exact ⟨by rw [← HR.out.1, HR.out.2]; rfl, HBA.out⟩
theorem info21 : (Try.prog.info? 21).map (fun i => (i.zero, i.size, i.bytes)) = some (some (.int .i32 0), 1, 4) := by kernel_rfl
/-- A block made just now is as it was, behind an append to an older row. -/
theorem cell_kept_new {w6 w7 : World} {cs : Array Value} {t e : TypeId} {v : Value} {b s n : Nat} {xs : List Value} (hown : w6.ownsRow b e s v n xs) (hg : (w6.alloc (.cells cs t)).grownBy w7 v.ownBlock) (j : Nat) (u : Value) (hj : cs[j]? = some u) : w7.cell? ⟨w6.heap.size, j, none⟩ = some u :=
  cell_grown hg ((blk_cell (heap_alloc_new w6 _) j).trans hj) (fun h => by have := own_lt hown _ h.symm; exact absurd this (Nat.lt_irrefl _))
def ScalarsEnd (w : World) (T : List Int × Nat × Int) (e : Ending) (w' : World) : Prop :=
  ∃ (v : Value) (us : List Int), e = .returned (.tuple #[v, .int .i64 T.2.2]) ∧ us = (if T.2.2 = 0 then T.1 else []) ∧ w'.ownsRow w.heap.size 21 1 v us.length (nums .i32 us) ∧ Below w.heap.size w w'
set_option maxRecDepth 100000 in
theorem scalarsC (A : Option Addr) (c : Nat) (l : List Int) (w : World) (hC : Kd.C (Kd.int .u8) w A l.length l) (hc : l.length ≤ c) (hb : ∀ x ∈ l, Byte x) (hlen : l.length ≤ 100000) :
    Calls Try.prog 17 #[.slice A l.length c] w (ScalarsEnd w (scan (l.length + 1) l)) := by
  have HC := Lib.hid hC
  have Hc := Lib.hid hc
  have Hb := Lib.hid hb
  clear hC hc hb
  obtain ⟨T, hT⟩ : ∃ T, T = scan (l.length + 1) l := ⟨_, rfl⟩
  rw [← hT]
  have HT := Lib.hid hT
  clear hT
  obtain ⟨i5, hi5, hz5⟩ := Option.map_eq_some_iff.1 info5p
  simp only [Prod.mk.injEq] at hz5
  have HI := Lib.hid (And.intro hi5 hz5.2.1)
  clear hi5 hz5
  go_enter Try.func17, Try.ntmps17
  go_wp2_with fail
  go_loopw [0, 4] (fun b a wr => ∃ (y us : List Int) (A7 : Option Addr) (c7 f : Nat), b = .slice A7 y.length c7 ∧ y.length < f ∧ us.length + y.length ≤ l.length ∧ Hid (us ++ (scan f y).1 = T.1 ∧ (scan f y).2.2 = T.2.2) ∧ Hid (∀ W', Below w.heap.size w W' → Kd.C (Kd.int .u8) W' A7 y.length y) ∧ Hid (y.length ≤ c7) ∧ Hid (∀ x ∈ y, Byte x) ∧ wr.ownsRow w.heap.size 21 1 a us.length (nums .i32 us) ∧ Below w.heap.size w wr)
    (fun b _ _ => match b with | .slice _ n _ => n | _ => 0)
  case atStart => exact ⟨l, [], A, c, l.length + 1, rfl, by omega, by simp, by rw [HT.out]; exact ⟨rfl, rfl⟩, fun W' hW' => Kd.C_below HC.out hW', Hc.out, Hb.out, own_nil _ _ _ _, Below.refl _ _⟩
  case round =>
    obtain ⟨y, us, A7, c7, f, rfl, hf, hul, HS, HRD7, HC7, HBY7, hown, hba⟩ := hrel
    have HBA := Lib.hid hba
    obtain ⟨Ao, co, rfl, _⟩ := own_reads hown
    have HO := Lib.hid hown
    clear hba hown
    by_cases hlt : 0 < y.length
    · have hne : Hid (y ≠ []) := fun h => by rw [h] at hlt; simp at hlt
      obtain ⟨f, rfl⟩ : ∃ g, f = g + 1 := ⟨f - 1, by omega⟩
      rcases dec_cases y HBY7.out with ⟨hd, _⟩ | ⟨n, hn1, hn2, hn3, hd⟩ | ⟨u, t, hu, hyt, hd⟩
      · have hs := scan_more (f := f) hne.out hd
        have HR : Hid (T.2.2 = 1) := by
          have := HS.out
          rw [hs] at this
          exact this.2.symm
        have HD := Lib.hid hd
        clear hs hd HS
        go_wp2_with fail
        refine (getC A7 c7 y _ _ _ _ _ _ _ _ _ _ (HRD7.out _ HBA.out) HC7.out HBY7.out HD.out).mono ?_
        rintro e w6 ⟨rfl, hb6⟩
        have HBA6 : Hid (Below w.heap.size w w6) := on HBA.out hb6
        clear hb6
        go_wp2_with fail
        go_quiet (fail)
        go_wp2_with fail
        go_ret2
        exact ⟨.slice none 0 0, [], by rw [HR.out]; rfl, by rw [HR.out]; rfl, own_nil _ _ _ _, pw_below_drewN (below_alloc HBA6.out _) _⟩
      · have hs := scan_bad (f := f) hne.out hd
        have HR : Hid (T.2.2 = 10) := by
          have := HS.out
          rw [hs] at this
          exact this.2.symm
        have HD := Lib.hid hd
        clear hs hd HS hn1 hn2 hn3
        go_wp2_with fail
        refine (getC A7 c7 y _ _ _ _ _ _ _ _ _ _ (HRD7.out _ HBA.out) HC7.out HBY7.out HD.out).mono ?_
        rintro e w6 ⟨rfl, hb6⟩
        have HBA6 : Hid (Below w.heap.size w w6) := on HBA.out hb6
        clear hb6
        go_wp2_with fail
        go_quiet (fail)
        go_wp2_with fail
        go_ret2
        exact ⟨.slice none 0 0, [], by rw [HR.out]; rfl, by rw [HR.out]; rfl, own_nil _ _ _ _, pw_below_drewN (below_alloc HBA6.out _) _⟩
      · have hn := enc_len_bd u
        have hyl : y.length = (enc u).length + t.length := by rw [hyt]; exact List.length_append
        have HS3 : Hid ((us ++ [u]) ++ (scan f t).1 = T.1 ∧ (scan f t).2.2 = T.2.2) := by
          have h2 := HS.out
          rw [hyt, scan_good t hu] at h2
          exact ⟨by rw [List.append_assoc]; exact h2.1, h2.2⟩
        have HYT := Lib.hid hyt
        obtain ⟨n, hne⟩ : ∃ n, n = (enc u).length := ⟨_, rfl⟩
        rw [← hne] at hn hd hyl
        have HNE := Lib.hid hne
        have HD := Lib.hid hd
        have HYL := Lib.hid hyl
        have hny : (n : Int) ≤ (y.length : Int) := by omega
        obtain ⟨A8, hcut, hread, hc8⟩ := print_cut_int (P := Try.prog) (k := .u8) 30 5 Try.underlying30 HI.out.1 HI.out.2 A7 c7 y (n : Int) (by omega) hny HC7.out
        have hdt : y.drop (n : Int).toNat = t := by
          rw [Int.toNat_natCast, HNE.out, HYT.out, List.drop_left]
        obtain ⟨c8, hc8e⟩ : ∃ c8, c8 = c7 - (n : Int).toNat := ⟨_, rfl⟩
        rw [hdt, ← hc8e] at hcut hc8
        rw [hdt] at hread
        have HRD := Lib.hid hread
        have HC8 := Lib.hid hc8
        clear hd hyl hyt HS hne hread hc8 hc8e hdt
        go_wp2_with fail
        refine (getC A7 c7 y _ _ _ _ _ _ _ _ _ _ (HRD7.out _ HBA.out) HC7.out HBY7.out HD.out).mono ?_
        rintro e w6 ⟨rfl, hb6⟩
        have HBA6 : Hid (Below w.heap.size w w6) := on HBA.out hb6
        have HB6 := Lib.hid hb6
        have HO6 := Lib.hid (pw_own_below HO.out hb6)
        clear hb6
        go_wp2_with (at_builtin; refine print_append_num w.heap.size rfl (.tmp 16) (.tmp 19) 35 21 .i32 4 rfl Try.underlying35 info21 (by omega) (.slice Ao us.length co) us u rfl (by first | (go_simp; done) | (go_simp; rfl)) (pw_own_below HO6.out (below_alloc (Below.refl _ _) _)) (below_alloc HBA6.out _) (by have := HBA6.out.size; simp; omega) (by omega) ?_; intro v7 w7 hown7 hb7 hg7 hat7; have HO7 := Lib.hid hown7; have HB7 := Lib.hid hb7; have HG7 := Lib.hid hg7; have hk1 := cell_kept_new HO6.out hg7 1 (.int .i64 (n : Int)) rfl; clear hown7 hb7 hg7 hat7)
        refine ⟨⟨t, us ++ [u], A8, c8, f, rfl, ?_, ?_, HS3, fun W' hW' => Kd.C_of_reads (d := (0 : Int)) (HRD.out W' (Kd.reads_of_C (enc := Value.int .u8) (d := (0 : Int)) (h1 := fun _ => rfl) (HRD7.out W' hW'))), HC8.out, fun x hx => HBY7.out x (by rw [HYT.out]; exact List.mem_append_right _ hx), HO7.out, HB7.out⟩, ?_⟩
        · have := HYL.out
          omega
        · have := HYL.out
          simp only [List.length_append, List.length_singleton]
          omega
        · have := HYL.out
          show t.length < y.length
          omega
    · have hy0 : y = [] := List.eq_nil_of_length_eq_zero (by omega)
      have HR : Hid (us = T.1 ∧ T.2.2 = 0) := by
        have := HS.out
        rw [hy0, scan_nil, List.append_nil] at this
        exact ⟨this.1, this.2.symm⟩
      clear hy0 HS
      go_wp2_with fail
      go_ret2
      exact ⟨.slice Ao us.length co, us, by rw [HR.out.2]; rfl, by rw [HR.out.2, if_pos rfl]; exact HR.out.1, HO.out, HBA.out⟩
def RefScalarsEnd (w : World) (T : List Int × Nat × Int) (e : Ending) (w' : World) : Prop :=
  ∃ (v : Value), e = .returned (.tuple #[v, .int .i64 (T.2.1 : Int), .int .i64 T.2.2]) ∧ w'.ownsRow w.heap.size 21 1 v T.1.length (nums .i32 T.1) ∧ Below w.heap.size w w'
set_option maxRecDepth 100000 in
theorem refScalarsC (A : Option Addr) (c : Nat) (l : List Int) (w : World) (hC : Kd.C (Kd.int .u8) w A l.length l) (hc : l.length ≤ c) (hb : ∀ x ∈ l, Byte x) (hlen : l.length ≤ 100000) :
    Calls Try.prog 15 #[.slice A l.length c] w (RefScalarsEnd w (scan (l.length + 1) l)) := by
  have HC := Lib.hid hC
  have Hc := Lib.hid hc
  have Hb := Lib.hid hb
  clear hC hc hb
  obtain ⟨T, hT⟩ : ∃ T, T = scan (l.length + 1) l := ⟨_, rfl⟩
  rw [← hT]
  have HT := Lib.hid hT
  clear hT
  obtain ⟨i5, hi5, hz5⟩ := Option.map_eq_some_iff.1 info5p
  simp only [Prod.mk.injEq] at hz5
  have HI := Lib.hid (And.intro hi5 hz5.2.1)
  clear hi5 hz5
  go_enter Try.func15, Try.ntmps15
  go_wp2_with fail
  go_loopw [5, 6] (fun a b wr => ∃ (us : List Int) (k f : Nat), k ≤ l.length ∧ b = .int .i64 (k : Int) ∧ l.length < f + k ∧ us.length ≤ k ∧ Hid (us ++ (scan f (l.drop k)).1 = T.1 ∧ k + (scan f (l.drop k)).2.1 = T.2.1 ∧ (scan f (l.drop k)).2.2 = T.2.2) ∧ wr.ownsRow w.heap.size 21 1 a us.length (nums .i32 us) ∧ Below w.heap.size w wr) (fun _ b _ => l.length - (intOf b).toNat)
  case atStart => exact ⟨[], 0, l.length + 1, by omega, rfl, by omega, by simp, by rw [HT.out]; exact ⟨by simp, by simp, rfl⟩, own_nil _ _ _ _, Below.refl _ _⟩
  case round =>
    obtain ⟨us, k, f, hk, rfl, hf, husk, HS, hown, hba⟩ := hrel
    have HBA := Lib.hid hba
    obtain ⟨Ao, co, rfl, _⟩ := own_reads hown
    have HO := Lib.hid hown
    clear hba hown
    have hle : (k : Int) ≤ (l.length : Int) := by omega
    obtain ⟨A7, hcut, hread, hc7⟩ := print_cut_int (P := Try.prog) (k := .u8) 30 5 Try.underlying30 HI.out.1 HI.out.2 A c l (k : Int) (by omega) hle Hc.out
    obtain ⟨c7, hc7e⟩ : ∃ c7, c7 = c - (k : Int).toNat := ⟨_, rfl⟩
    obtain ⟨y, hy⟩ : ∃ y, y = l.drop (k : Int).toNat := ⟨_, rfl⟩
    rw [← hy] at hcut hread hc7
    rw [← hc7e] at hcut hc7
    rw [Int.toNat_natCast] at hy
    have HS2 : Hid (us ++ (scan f y).1 = T.1 ∧ k + (scan f y).2.1 = T.2.1 ∧ (scan f y).2.2 = T.2.2) := by rw [hy]; exact HS.out
    have HY := Lib.hid hy
    have HYL : Hid (y.length = l.length - k) := by
      show y.length = _
      rw [hy, List.length_drop]
    have HRD7 : Hid (Kd.C (Kd.int .u8) wr A7 y.length y) := Kd.C_of_reads (d := (0 : Int)) (hread wr (Kd.reads_of_C (enc := Value.int .u8) (d := (0 : Int)) (h1 := fun _ => rfl) (Kd.C_below HC.out HBA.out)))
    have HC7 := Lib.hid hc7
    have HBY7 : Hid (∀ x ∈ y, Byte x) := fun x hx => Hb.out x (List.mem_of_mem_drop (by rw [← HY.out]; exact hx))
    clear hread hc7 hle hy hc7e HS
    by_cases hlt : k < l.length
    · have hne : Hid (y ≠ []) := fun h => by have := HYL.out; rw [h] at this; simp at this; omega
      obtain ⟨f, rfl⟩ : ∃ g, f = g + 1 := ⟨f - 1, by omega⟩
      rcases dec_cases y HBY7.out with ⟨hd, _⟩ | ⟨n, hn1, hn2, hn3, hd⟩ | ⟨u, t, hu, hyt, hd⟩
      · have hs := scan_more (f := f) hne.out hd
        have HR : Hid (us = T.1 ∧ k = T.2.1 ∧ T.2.2 = 1) := by
          have := HS2.out
          rw [hs, List.append_nil] at this
          exact ⟨this.1, this.2.1, this.2.2.symm⟩
        have HD := Lib.hid hd
        clear hs hd HS2
        go_wp2_with fail
        refine (refGetC A7 c7 y _ _ _ _ _ _ _ _ _ _ HRD7.out HC7.out HBY7.out HD.out).mono ?_
        rintro e w6 ⟨rfl, hb6⟩
        have HBA6 : Hid (Below w.heap.size w w6) := on HBA.out hb6
        have HO6 := Lib.hid (pw_own_below HO.out hb6)
        clear hb6 hcut
        go_wp2_with fail
        go_quiet (fail)
        go_wp2_with fail
        go_ret3
        exact ⟨.slice Ao us.length co, by rw [← HR.out.2.1, HR.out.2.2]; rfl, by rw [← HR.out.1]; exact pw_own_below HO6.out (pw_below_drewN (below_alloc (Below.refl _ _) _) _), pw_below_drewN (below_alloc HBA6.out _) _⟩
      · have hs := scan_bad (f := f) hne.out hd
        have HR : Hid (us = T.1 ∧ k = T.2.1 ∧ T.2.2 = 10) := by
          have := HS2.out
          rw [hs, List.append_nil] at this
          exact ⟨this.1, this.2.1, this.2.2.symm⟩
        have HD := Lib.hid hd
        clear hs hd HS2 hn1 hn2 hn3
        go_wp2_with fail
        refine (refGetC A7 c7 y _ _ _ _ _ _ _ _ _ _ HRD7.out HC7.out HBY7.out HD.out).mono ?_
        rintro e w6 ⟨rfl, hb6⟩
        have HBA6 : Hid (Below w.heap.size w w6) := on HBA.out hb6
        have HO6 := Lib.hid (pw_own_below HO.out hb6)
        clear hb6 hcut
        go_wp2_with fail
        go_quiet (fail)
        go_wp2_with fail
        go_ret3
        exact ⟨.slice Ao us.length co, by rw [← HR.out.2.1, HR.out.2.2]; rfl, by rw [← HR.out.1]; exact pw_own_below HO6.out (pw_below_drewN (below_alloc (Below.refl _ _) _) _), pw_below_drewN (below_alloc HBA6.out _) _⟩
      · have hn := enc_len_bd u
        have hyl : y.length = (enc u).length + t.length := by rw [hyt]; exact List.length_append
        have hkn : k + (enc u).length ≤ l.length := by have := HYL.out; omega
        have HS3 : Hid ((us ++ [u]) ++ (scan f (l.drop (k + (enc u).length))).1 = T.1 ∧ k + (enc u).length + (scan f (l.drop (k + (enc u).length))).2.1 = T.2.1 ∧ (scan f (l.drop (k + (enc u).length))).2.2 = T.2.2) := by
          have h2 := HS2.out
          have ht : l.drop (k + (enc u).length) = t := by
            rw [← List.drop_drop, ← HY.out, hyt, List.drop_left]
          rw [hyt, scan_good t hu] at h2
          rw [ht]
          exact ⟨by rw [List.append_assoc]; exact h2.1, by rw [Nat.add_assoc]; exact h2.2.1, h2.2.2⟩
        obtain ⟨n, hne⟩ : ∃ n, n = (enc u).length := ⟨_, rfl⟩
        rw [← hne] at hn hkn HS3 hd
        have HD := Lib.hid hd
        clear hd hyl hyt HS2 hne
        go_wp2_with fail
        refine (refGetC A7 c7 y _ _ _ _ _ _ _ _ _ _ HRD7.out HC7.out HBY7.out HD.out).mono ?_
        rintro e w6 ⟨rfl, hb6⟩
        have HBA6 : Hid (Below w.heap.size w w6) := on HBA.out hb6
        have HO6 := Lib.hid (pw_own_below HO.out hb6)
        clear hb6 hcut
        go_wp2_with (at_builtin; refine print_append_num w.heap.size rfl (.tmp 23) (.tmp 26) 35 21 .i32 4 rfl Try.underlying35 info21 (by omega) (.slice Ao us.length co) us u rfl (by first | (go_simp; done) | (go_simp; rfl)) (pw_own_below HO6.out (below_alloc (Below.refl _ _) _)) (below_alloc HBA6.out _) (by have := HBA6.out.size; simp; omega) (by omega) ?_; intro v7 w7 hown7 hb7 hg7 hat7; have HO7 := Lib.hid hown7; have HB7 := Lib.hid hb7; have hk1 := cell_kept_new HO6.out hg7 1 (.int .i64 (n : Int)) rfl; clear hown7 hb7 hg7 hat7)
        exact ⟨⟨us ++ [u], k + n, f, hkn, by go_num, by omega, by simp only [List.length_append, List.length_singleton]; omega, HS3, HO7.out, HB7.out⟩, by simp [intOf]; omega⟩
    · have hkl : k = l.length := by omega
      have HR : Hid (us = T.1 ∧ k = T.2.1 ∧ T.2.2 = 0) := by
        have := HS2.out
        rw [HY.out, hkl, List.drop_length, scan_nil, List.append_nil] at this
        exact ⟨this.1, by rw [hkl]; exact this.2.1, this.2.2.symm⟩
      clear hkl HS2 hcut
      go_wp2_with fail
      go_ret3
      exact ⟨_, by rw [← HR.out.2.1, HR.out.2.2]; rfl, by rw [← HR.out.1]; exact HO.out, HBA.out⟩
end Go.Proofs.Ytaogccmbdmheeaa.U8
