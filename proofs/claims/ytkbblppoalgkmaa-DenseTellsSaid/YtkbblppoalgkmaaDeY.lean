/- DenseTells, walked. -/
import Derived.Test.YtkbblppoalgkmaaDeX
import Derived.Deep.RegionHeld3
import Derived.Deep.CutBlock
import Derived.Deep.DeepCutAuto
namespace Go.Proofs.Ytkbblppoalgkmaa.De
open Go.RowKit Go.Maps Go.Proofs.YtkbblppoalgkmaaW.PrintWords Go.Proofs.YtkbblppoalgkmaaW.PrintLast Go.Proofs.YtkbblppoalgkmaaW.PrintMore
set_option linter.unusedVariables false
set_option linter.unusedSimpArgs false
/-- Both tables in memory. -/
def TSt (w wr : World) (base g b : Nat) (first : Int) (s : ByteArray) (L : List Int) (A : Option Addr) (c : Nat) : Prop :=
  Below w.heap.size w wr ∧ Tbl wr base g first s L ∧ wr.heap[b]? = some (.cells #[.int .i64 first, .slice A L.length c] 35 (0, 0)) ∧ Kd.C (Kd.int .i32) wr A L.length L
theorem TSt.below {w wr wr' : World} {base g b : Nat} {first : Int} {s : ByteArray} {L : List Int} {A : Option Addr} {c : Nat} (h : TSt w wr base g b first s L A c) (hb : Below wr.heap.size wr wr') : TSt w wr' base g b first s L A c :=
  ⟨on h.1 hb, h.2.1.below hb, (hb.block b (Array.getElem?_eq_some_iff.1 h.2.2.1).1).trans h.2.2.1, Kd.C_below h.2.2.2 hb⟩
set_option maxHeartbeats 4000000 in
set_option maxRecDepth 100000 in
theorem denseTellsC (first : Int) (s : ByteArray) (u : Int) (hu : (Lit.int .i32 u).wf = true) (w : World) : Calls Try.prog 5 #[.int .i64 first, .string s, .int .i32 u] w fun e w' => e = .returned (.bool true) ∧ Below w.heap.size w w' := by
  have HU := Lib.hid hu
  clear hu
  by_cases hlong : (s.size : Int) > 2000
  · go_enter Try.func5, Try.ntmps5
    go_wp2_with fail
    go_ret
    exact ⟨rfl, Below.refl _ _⟩
  · have HS : Hid (s.size ≤ 100000) := Lib.hid (by omega)
    go_enter Try.func5, Try.ntmps5
    go_wp2_with fail
    refine (newC first s w (by have := HS.out; omega)).mono ?_
    rintro e w2 ⟨hb2, h⟩
    have HB2 := Lib.hid hb2
    clear hb2
    rcases h with ⟨h, rfl⟩ | ⟨h, g, rfl, ht⟩
    · have HE := Lib.hid h
      have hrn := refNewC first s w2 HS.out
      obtain ⟨c, hc⟩ : ∃ c, c = errOf first s := ⟨_, rfl⟩
      have HRN : Hid (Calls Try.prog 10 #[.int .i64 first, .string s] w2 fun e w' => Below w2.heap.size w2 w' ∧ e = .returned (.tuple #[.agg #[.int .i64 0, .slice none 0 0], .int .i64 c])) := Lib.hid (hrn.mono (by
        rintro e w' ⟨hb, h⟩
        rcases h with ⟨h, rfl⟩ | ⟨h, _⟩
        · exact ⟨hb, by rw [hc]⟩
        · exact absurd h HE.out))
      rw [← hc] at h ⊢
      have hc0 : (c != 0) = true := bne_iff_ne.mpr h
      have hcc : (c != c) = false := by simp
      clear hc hrn HE h
      go_wp2_with fail
      refine HRN.out.mono ?_
      rintro e w3 ⟨hb3, rfl⟩
      have HB3 := Lib.hid (on HB2.out hb3)
      clear hb3 HRN
      go_wp2_with fail
      go_ret
      exact ⟨rfl, below_alloc HB3.out _⟩
    · obtain ⟨f0, f1, f2⟩ := ok_bd h
      have HT := Lib.hid ht
      have HWF : Hid (∀ v ∈ runes s, (Lit.int .i32 v).wf = true) := Lib.hid fun v hv => wf_mem hv
      have hrn := refNewC first s w2 HS.out
      have HRN : Hid (Calls Try.prog 10 #[.int .i64 first, .string s] w2 fun e w' => Below w2.heap.size w2 w' ∧ ∃ A c, e = .returned (.tuple #[.agg #[.int .i64 first, .slice A (runes s).length c], .int .i64 0]) ∧ Kd.C (Kd.int .i32) w' A (runes s).length (runes s)) := Lib.hid (hrn.mono (by
        rintro e w' ⟨hb, h'⟩
        rcases h' with ⟨h', _⟩ | ⟨h', h''⟩
        · exact absurd h h'
        · exact ⟨hb, h''⟩))
      obtain ⟨L, hL⟩ : ∃ L, L = runes s := ⟨_, rfl⟩
      rw [← hL] at HT HWF f2 HRN
      clear h ht hL hrn
      go_wp2_with fail
      refine HRN.out.mono ?_
      rintro e w3 ⟨hb3, A, c, rfl, hC⟩
      have HB3 := Lib.hid (on HB2.out hb3)
      have HT3 := Lib.hid (HT.out.below hb3)
      have HC3 := Lib.hid hC
      clear hb3 HRN hC HT HB2
      go_upto_if 45 with fail
      have HST0 : Hid (TSt w (w3.alloc (.cells #[.int .i64 first, .slice A L.length c] 35)) w.heap.size g w3.heap.size first s L A c) := Lib.hid ⟨below_alloc HB3.out _, HT3.out.below (below_alloc (Below.refl _ _) _), heap_alloc_new _ _, Kd.C_below HC3.out (below_alloc (Below.refl _ _) _)⟩
      generalize hw4 : w3.alloc (.cells #[.int .i64 first, .slice A L.length c] 35) = w4 at *
      generalize hbq : w3.heap.size = b at *
      clear hw4 hbq HB3 HT3 HC3
      go_wp2_with fail
      go_loopw [11] (fun i wr => ∃ k : Nat, k ≤ 256 ∧ i = .int .i64 (k : Int) ∧ Hid (TSt w wr w.heap.size g b first s L A c)) (fun i _ => 256 - (intOf i).toNat)
      case atStart => exact ⟨0, by omega, rfl, HST0⟩
      case round =>
        obtain ⟨k, hk, rfl, HST⟩ := hrel
        clear HST0
        by_cases hk2 : k < 256
        · have hwr : IntKind.u8.wrap (k : Int) = (k : Int) := by rw [IntKind.wrap_u8]; omega
          have k1 : (k : Int) < 256 := by omega
          obtain ⟨so, hso⟩ : ∃ b, b = scalOk first L (k : Int) := ⟨_, rfl⟩
          obtain ⟨v, hv⟩ : ∃ v, v = scalF first L (k : Int) := ⟨_, rfl⟩
          have hsc := scalarC HST.out.2.1 ⟨f0, f1⟩ (k : Int) ⟨by omega, by omega⟩
          have hrs := rscalarC (c := c) HST.out.2.2.2 ⟨f0, f1⟩ (k : Int) ⟨by omega, by omega⟩
          rw [← hso, ← hv] at hsc hrs
          have HSC := Lib.hid hsc
          have HRS := Lib.hid hrs
          have c0 := blk_cell HST.out.2.2.1 0
          have c1 := blk_cell HST.out.2.2.1 1
          have HLOAD := Lib.hid (@run_loadVar_row Try.prog)
          clear hsc hrs hso hv
          go_wp2_with fail
          refine HSC.out.mono ?_
          rintro e w5 ⟨rfl, rfl⟩
          clear HSC
          go_wp2_with fail
          refine HRS.out.mono ?_
          rintro e w6 ⟨rfl, hb6⟩
          have HST6 := Lib.hid (HST.out.below hb6)
          clear HRS hb6 HST c0 c1
          have hvv : (v != v) = false := by simp
          have hss : (so != so) = false := by simp
          go_wp2_with fail
          go_roundw
          case rel => exact ⟨k + 1, by omega, by go_num, HST6⟩
          case measure => simp [intOf]; omega
        · have k1 : ¬ (k : Int) < 256 := by omega
          obtain ⟨bo, hbo⟩ : ∃ b, b = bOk L u := ⟨_, rfl⟩
          obtain ⟨x, hx⟩ : ∃ x, x = byteF first L u := ⟨_, rfl⟩
          have hby := byteC HST.out.2.1 u HU.out
          have hrb := rbyteC (c := c) HST.out.2.2.2 f0 f2 u
          rw [← hbo, ← hx] at hby hrb
          have HBY := Lib.hid hby
          have HRB := Lib.hid hrb
          have c0 := blk_cell HST.out.2.2.1 0
          have c1 := blk_cell HST.out.2.2.1 1
          have hxx : (x != x) = false := by simp
          have hoo : (bo != bo) = false := by simp
          clear hby hrb hbo hx
          go_wp2_with fail
          refine HBY.out.mono ?_
          rintro e w5 ⟨rfl, rfl⟩
          clear HBY
          go_wp2_with fail
          refine HRB.out.mono ?_
          rintro e w6 ⟨rfl, hb6⟩
          have HST6 := Lib.hid (HST.out.below hb6)
          clear HRB hb6 HST c0 c1
          go_wp2_with fail
          refine (textC HST6.out.2.1).mono ?_
          rintro e w7 ⟨rfl, rfl⟩
          go_wp2_with fail
          go_loopw [20] (fun i wr => ∃ k : Nat, k ≤ L.length ∧ i = .int .i64 (k : Int) ∧ Hid (TSt w wr w.heap.size g b first s L A c)) (fun i _ => L.length - (intOf i).toNat)
          case atStart => exact ⟨0, by omega, rfl, HST6⟩
          case round =>
            obtain ⟨j, hj, rfl, HST⟩ := hrel
            clear HST6 hxx hoo
            have c0 := blk_cell HST.out.2.2.1 0
            have c1 := blk_cell HST.out.2.2.1 1
            by_cases hj2 : j < L.length
            · have j1 : (j : Int) < (L.length : Int) := by omega
              have j0 : (0 : Int) ≤ (j : Int) := by omega
              obtain ⟨ad, hA, hcell⟩ := Kd.at_int HST.out.2.2.2 (j : Int) (by omega) (by omega)
              subst hA
              have hmem : rd L (j : Int) ∈ L := rd_mem L j j0 j1
              obtain ⟨y, hy⟩ : ∃ y, y = rd L (j : Int) := ⟨_, rfl⟩
              rw [← hy] at hcell hmem
              simp only [Int.toNat_natCast] at hcell
              obtain ⟨bo, hbo⟩ : ∃ b, b = bOk L y := ⟨_, rfl⟩
              obtain ⟨x, hx⟩ : ∃ x, x = byteF first L y := ⟨_, rfl⟩
              have hby := byteC HST.out.2.1 y (HWF.out y hmem)
              have hrb : ∀ W, TSt w W w.heap.size g b first s L (some ad) c → Calls Try.prog 12 #[.agg #[.int .i64 first, .slice (some ad) L.length c], .int .i32 y] W fun e w' => e = .returned (.tuple #[.int .u8 x, .bool bo]) ∧ Below W.heap.size W w' := by
                intro W hW
                rw [hbo, hx]
                exact rbyteC (c := c) hW.2.2.2 f0 f2 y
              rw [← hbo, ← hx] at hby
              have HBY := Lib.hid hby
              have HRB := Lib.hid hrb
              have hxx : (x != x) = false := by simp
              have hoo : (bo != bo) = false := by simp
              clear hby hrb hbo hx hmem hy
              go_wp2_with fail
              refine HBY.out.mono ?_
              rintro e w8 ⟨rfl, rfl⟩
              clear HBY
              go_upto_region 24 with fail
              go_region_held3 (fun w' => w'.cell? ⟨b, 0, none⟩ = some (.int .i64 first) ∧ w'.cell? ⟨b, 1, none⟩ = some (.slice (some ad) L.length c) ∧ w'.cell? (ad.add j) = some (.int .i32 y)) (first | exact ⟨c0, c1, hcell⟩ | exact HK.out) (first | (go_at_call 12; refine (HRB.out _ (HST.out.below (by repeat (first | exact Below.refl _ _ | apply below_drew1 | apply below_alloc)))).mono ?_; rintro e w9 ⟨rfl, hb9⟩; have HST9 := Lib.hid ((HST.out.below (show Below w8.heap.size w8 _ by repeat (first | exact Below.refl _ _ | apply below_drew1 | apply below_alloc))).below hb9); have HK := Lib.hid (And.intro (blk_cell HST9.out.2.2.1 0) (And.intro (blk_cell HST9.out.2.2.1 1) (((on (show Below w8.heap.size w8 _ by repeat (first | exact Below.refl _ _ | apply below_drew1 | apply below_alloc)) hb9).cell (p := ad.add j) (World.block_lt_of_cell? _ _ hcell)).trans hcell))); clear hb9) | fail)
              go_wp2_with fail
              go_roundw
              case rel => exact ⟨j + 1, by omega, by go_num, HST9⟩
              case measure => simp [intOf]; omega
            · have j1 : ¬ (j : Int) < (L.length : Int) := by omega
              go_wp2_with fail
              go_ret
              exact ⟨rfl, HST.out.1⟩
theorem denseTells_walk (W : World) (first : Int) (wf : (Lit.int .i64 first).wf = true) (s : ByteArray) (ws : s.size ≤ maxLen) (u : Int) (wu : (Lit.int .i32 u).wf = true) :
    Calls Try.prog 5 #[.int .i64 first, .string s, .int .i32 u] W fun e w' => e = .returned (.bool true) ∧ Below W.heap.size W w' := denseTellsC first s u wu W
end Go.Proofs.Ytkbblppoalgkmaa.De
