/- The reference's Scalars, walked, for layer 7. -/
import Derived.Test.YtkbblppoalgkmaaDeR
import Derived.Deep.QuietTactic
import Derived.BigQuiet
namespace Go.Proofs.Ytkbblppoalgkmaa.U8
open Go.RowKit Go.Proofs.Ytkbblppoalgkmaa.PDenseTells Go.Proofs.YtkbblppoalgkmaaW.PrintWords Go.Proofs.YtkbblppoalgkmaaW.PrintLast Go.Proofs.YtkbblppoalgkmaaW.PrintMore
open Go.Proofs.Ytkbblppoalgkmaa.De (on)
set_option linter.unusedVariables false
set_option linter.unusedSimpArgs false
theorem info21 : (Try.prog.info? 21).map (fun i => (i.zero, i.size, i.bytes)) = some (some (.int .i32 0), 1, 4) := by kernel_rfl
/-- A block made just now is as it was, behind an append to an older row. -/
theorem cell_kept_new {w6 w7 : World} {cs : Array Value} {t e : TypeId} {v : Value} {b s n : Nat} {xs : List Value} (hown : w6.ownsRow b e s v n xs) (hg : (w6.alloc (.cells cs t)).grownBy w7 v.ownBlock) (j : Nat) (u : Value) (hj : cs[j]? = some u) : w7.cell? ⟨w6.heap.size, j, none⟩ = some u :=
  cell_grown hg ((blk_cell (heap_alloc_new w6 _) j).trans hj) (fun h => by have := own_lt hown _ h.symm; exact absurd this (Nat.lt_irrefl _))
def RefScalarsEnd (w : World) (T : List Int × Nat × Int) (e : Ending) (w' : World) : Prop :=
  ∃ (v : Value), e = .returned (.tuple #[v, .int .i64 (T.2.1 : Int), .int .i64 T.2.2]) ∧ w'.ownsRow w.heap.size 21 1 v T.1.length (nums .i32 T.1) ∧ Below w.heap.size w w'
set_option maxRecDepth 100000 in
theorem refScalarsC (A : Option Addr) (c : Nat) (l : List Int) (w : World) (hC : Kd.C (Kd.int .u8) w A l.length l) (hc : l.length ≤ c) (hb : ∀ x ∈ l, Byte x) (hlen : l.length ≤ 100000) :
    Calls Try.prog 15 #[.slice A l.length c] w (RefScalarsEnd w (scan3 (l.length + 1) l)) := by
  have HC := Lib.hid hC
  have Hc := Lib.hid hc
  have Hb := Lib.hid hb
  clear hC hc hb
  obtain ⟨T, hT⟩ : ∃ T, T = scan3 (l.length + 1) l := ⟨_, rfl⟩
  rw [← hT]
  have HT := Lib.hid hT
  clear hT
  obtain ⟨i5, hi5, hz5⟩ := Option.map_eq_some_iff.1 info5p
  simp only [Prod.mk.injEq] at hz5
  have HI := Lib.hid (And.intro hi5 hz5.2.1)
  clear hi5 hz5
  go_enter Try.func15, Try.ntmps15
  go_wp2_with fail
  go_loopw [5, 6] (fun a b wr => ∃ (us : List Int) (k f : Nat), k ≤ l.length ∧ b = .int .i64 (k : Int) ∧ l.length < f + k ∧ us.length ≤ k ∧ Hid (us ++ (scan3 f (l.drop k)).1 = T.1 ∧ k + (scan3 f (l.drop k)).2.1 = T.2.1 ∧ (scan3 f (l.drop k)).2.2 = T.2.2) ∧ wr.ownsRow w.heap.size 21 1 a us.length (nums .i32 us) ∧ Below w.heap.size w wr) (fun _ b _ => l.length - (intOf b).toNat)
  case atStart => exact ⟨[], 0, l.length + 1, by omega, rfl, by omega, by simp, by rw [HT.out]; exact ⟨by simp, by simp, rfl⟩, own_nil _ _ _ _, Below.refl _ _⟩
  case round =>
    obtain ⟨us, k, f, hk, rfl, hf, husk, HS, hown, hba⟩ := hrel
    have HBA := Lib.hid hba
    obtain ⟨Ao, co, rfl, _⟩ := own_reads hown
    have HO := Lib.hid hown
    clear hba hown
    have hle : (k : Int) ≤ (l.length : Int) := by omega
    obtain ⟨A7, hcut, hread, hc7⟩ := print_cut_int (P := Try.prog) (k := .u8) 41 5 Try.underlying41 HI.out.1 HI.out.2 A c l (k : Int) (by omega) hle Hc.out
    obtain ⟨c7, hc7e⟩ : ∃ c7, c7 = c - (k : Int).toNat := ⟨_, rfl⟩
    obtain ⟨y, hy⟩ : ∃ y, y = l.drop (k : Int).toNat := ⟨_, rfl⟩
    rw [← hy] at hcut hread hc7
    rw [← hc7e] at hcut hc7
    rw [Int.toNat_natCast] at hy
    have HS2 : Hid (us ++ (scan3 f y).1 = T.1 ∧ k + (scan3 f y).2.1 = T.2.1 ∧ (scan3 f y).2.2 = T.2.2) := by rw [hy]; exact HS.out
    have HY := Lib.hid hy
    have HYL : Hid (y.length = l.length - k) := by
      show y.length = _
      rw [hy, List.length_drop]
    have HRD7 : Hid (Kd.C (Kd.int .u8) wr A7 y.length y) := Kd.C_of_reads (d := (0 : Int)) (hread wr (Kd.reads_of_C (enc := Value.int .u8) (d := (0 : Int)) (h1 := fun _ => rfl) (Kd.C_below HC.out HBA.out)))
    have HC7 := Lib.hid hc7
    have HBY7 : Hid (∀ x ∈ y, Byte x) := fun x hx => Hb.out x (List.mem_of_mem_drop (by rw [← HY.out]; exact hx))
    clear hread hc7 hle hy hc7e HS
    by_cases hlt : k < l.length
    · have hne : Hid (y ≠ []) := fun h => by have := HYL.out; rw [h] at this; simp at this; omega
      obtain ⟨f, rfl⟩ : ∃ g, f = g + 1 := ⟨f - 1, by omega⟩
      rcases dec_cases y HBY7.out with ⟨hd, _⟩ | ⟨n, hn1, hn2, hn3, hd⟩ | ⟨u, t, hu, hyt, hd⟩
      · have hs := scan3_more (f := f) hne.out hd
        have HR : Hid (us = T.1 ∧ k = T.2.1 ∧ T.2.2 = 1) := by
          have := HS2.out
          rw [hs, List.append_nil] at this
          exact ⟨this.1, this.2.1, this.2.2.symm⟩
        have HD := Lib.hid hd
        clear hs hd HS2
        go_wp2_with fail
        refine (refGetC A7 c7 y _ _ _ _ _ _ _ _ _ _ HRD7.out HC7.out HBY7.out HD.out).mono ?_
        rintro e w6 ⟨rfl, hb6⟩
        have HBA6 : Hid (Below w.heap.size w w6) := on HBA.out hb6
        have HO6 := Lib.hid (pw_own_below HO.out hb6)
        clear hb6 hcut
        go_wp2_with fail
        go_quiet (fail)
        go_wp2_with fail
        go_ret3
        exact ⟨.slice Ao us.length co, by rw [← HR.out.2.1, HR.out.2.2]; rfl, by rw [← HR.out.1]; exact pw_own_below HO6.out (pw_below_drewN (below_alloc (Below.refl _ _) _) _), pw_below_drewN (below_alloc HBA6.out _) _⟩
      · have hs := scan3_bad (f := f) hne.out hd
        have HR : Hid (us = T.1 ∧ k = T.2.1 ∧ T.2.2 = 10) := by
          have := HS2.out
          rw [hs, List.append_nil] at this
          exact ⟨this.1, this.2.1, this.2.2.symm⟩
        have HD := Lib.hid hd
        clear hs hd HS2 hn1 hn2 hn3
        go_wp2_with fail
        refine (refGetC A7 c7 y _ _ _ _ _ _ _ _ _ _ HRD7.out HC7.out HBY7.out HD.out).mono ?_
        rintro e w6 ⟨rfl, hb6⟩
        have HBA6 : Hid (Below w.heap.size w w6) := on HBA.out hb6
        have HO6 := Lib.hid (pw_own_below HO.out hb6)
        clear hb6 hcut
        go_wp2_with fail
        go_quiet (fail)
        go_wp2_with fail
        go_ret3
        exact ⟨.slice Ao us.length co, by rw [← HR.out.2.1, HR.out.2.2]; rfl, by rw [← HR.out.1]; exact pw_own_below HO6.out (pw_below_drewN (below_alloc (Below.refl _ _) _) _), pw_below_drewN (below_alloc HBA6.out _) _⟩
      · have hn := enc_len_bd u
        have hyl : y.length = (enc u).length + t.length := by rw [hyt]; exact List.length_append
        have hkn : k + (enc u).length ≤ l.length := by have := HYL.out; omega
        have HS3 : Hid ((us ++ [u]) ++ (scan3 f (l.drop (k + (enc u).length))).1 = T.1 ∧ k + (enc u).length + (scan3 f (l.drop (k + (enc u).length))).2.1 = T.2.1 ∧ (scan3 f (l.drop (k + (enc u).length))).2.2 = T.2.2) := by
          have h2 := HS2.out
          have ht : l.drop (k + (enc u).length) = t := by
            rw [← List.drop_drop, ← HY.out, hyt, List.drop_left]
          rw [hyt, scan3_good t hu] at h2
          rw [ht]
          exact ⟨by rw [List.append_assoc]; exact h2.1, by rw [Nat.add_assoc]; exact h2.2.1, h2.2.2⟩
        obtain ⟨n, hne⟩ : ∃ n, n = (enc u).length := ⟨_, rfl⟩
        rw [← hne] at hn hkn HS3 hd
        have HD := Lib.hid hd
        clear hd hyl hyt HS2 hne
        go_wp2_with fail
        refine (refGetC A7 c7 y _ _ _ _ _ _ _ _ _ _ HRD7.out HC7.out HBY7.out HD.out).mono ?_
        rintro e w6 ⟨rfl, hb6⟩
        have HBA6 : Hid (Below w.heap.size w w6) := on HBA.out hb6
        have HO6 := Lib.hid (pw_own_below HO.out hb6)
        clear hb6 hcut
        go_wp2_with (at_builtin; refine print_append_num w.heap.size rfl (.tmp 23) (.tmp 26) 33 21 .i32 4 rfl Try.underlying33 info21 (by omega) (.slice Ao us.length co) us u rfl (by first | (go_simp; done) | (go_simp; rfl)) (pw_own_below HO6.out (below_alloc (Below.refl _ _) _)) (below_alloc HBA6.out _) (by have := HBA6.out.size; simp; omega) (by omega) ?_; intro v7 w7 hown7 hb7 hg7 hat7; have HO7 := Lib.hid hown7; have HB7 := Lib.hid hb7; have hk1 := cell_kept_new HO6.out hg7 1 (.int .i64 (n : Int)) rfl; clear hown7 hb7 hg7 hat7)
        exact ⟨⟨us ++ [u], k + n, f, hkn, by go_num, by omega, by simp only [List.length_append, List.length_singleton]; omega, HS3, HO7.out, HB7.out⟩, by simp [intOf]; omega⟩
    · have hkl : k = l.length := by omega
      have HR : Hid (us = T.1 ∧ k = T.2.1 ∧ T.2.2 = 0) := by
        have := HS2.out
        rw [HY.out, hkl, List.drop_length, scan3_nil, List.append_nil] at this
        exact ⟨this.1, by rw [hkl]; exact this.2.1, this.2.2.symm⟩
      clear hkl HS2 hcut
      go_wp2_with fail
      go_ret3
      exact ⟨_, by rw [← HR.out.2.1, HR.out.2.2]; rfl, by rw [← HR.out.1]; exact HO.out, HBA.out⟩
end Go.Proofs.Ytkbblppoalgkmaa.U8
