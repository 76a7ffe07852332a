/- JohabSyllables, walked: codes rise with syllables and stand for them. -/
import Derived.Test.YtdihghjjinlaaaaDoorJWorks
import Derived.Lib.Bytes
namespace Go.Proofs.YtdihghjjinlaaaaDoor.J
open Go.RowKit Go.Proofs.YtdihghjjinlaaaaDoorW.PrintWords Go.Proofs.YtdihghjjinlaaaaDoorW.PrintLast Go.Proofs.YtdihghjjinlaaaaDoorW.PrintMore
def cd (u : Int) : Int := code (fa u) (fb u) (fc u)
theorem cd_bd {u : Int} (h : 44032 ≤ u ∧ u ≤ 55203) : 32768 ≤ cd u ∧ cd u < 65536 := code_bd (parts_ok h)
theorem syl_parts (u : Int) : syl (fa u) (fb u) (fc u) = u := by
  unfold syl fa fb fc
  omega
theorem cd_lt {u : Int} (h : 44032 ≤ u ∧ u + 1 ≤ 55203) : cd u < cd (u + 1) := by
  have h1 := parts_ok (u := u) ⟨h.1, by omega⟩
  have h2 := parts_ok (u := u + 1) ⟨by omega, h.2⟩
  have k1 : ∀ j : Nat, j < 20 → rd mid (j : Int) < rd mid ((j : Int) + 1) := by decide +kernel
  have k2 : ∀ j : Nat, j < 27 → rd las (j : Int) < rd las ((j : Int) + 1) := by decide +kernel
  unfold cd
  have ha : fa u = fa (u + 1) ∧ fb u = fb (u + 1) ∧ fc (u + 1) = fc u + 1 ∨ fa u = fa (u + 1) ∧ fb (u + 1) = fb u + 1 ∨ fa (u + 1) = fa u + 1 := by
    unfold fa fb fc
    omega
  generalize fa u = a at *
  generalize fb u = b at *
  generalize fc u = c at *
  generalize fa (u + 1) = a' at *
  generalize fb (u + 1) = b' at *
  generalize fc (u + 1) = c' at *
  obtain ⟨⟨a1, a2⟩, ⟨b1, b2⟩, c1, c2⟩ := h1
  obtain ⟨⟨d1, d2⟩, ⟨e1, e2⟩, f1, f2⟩ := h2
  obtain ⟨j, rfl⟩ := Int.eq_ofNat_of_zero_le b1
  obtain ⟨l, rfl⟩ := Int.eq_ofNat_of_zero_le c1
  obtain ⟨j', rfl⟩ := Int.eq_ofNat_of_zero_le e1
  obtain ⟨l', rfl⟩ := Int.eq_ofNat_of_zero_le f1
  have m := mid_bd j (by omega)
  have n := las_bd l (by omega)
  have m' := mid_bd j' (by omega)
  have n' := las_bd l' (by omega)
  unfold code
  rcases ha with ⟨x1, x2, x3⟩ | ⟨x1, x2⟩ | x1
  · have := k2 l (by omega)
    rw [x3, ← x2]
    omega
  · have := k1 j (by omega)
    rw [x2]
    omega
  · rw [x1]
    omega
theorem got_code {u : Int} (h : 44032 ≤ u ∧ u ≤ 55203) : GotIs [cd u / 256, cd u % 256] 0 2 1 u := by
  have hb := cd_bd h
  have he : cd u / 256 * 256 + cd u % 256 = cd u := by omega
  obtain ⟨hc, p1, p2, p3⟩ := code_unpack (parts_ok h)
  have hc' : Code (cd u / 256 * 256 + cd u % 256) := by rw [he]; exact hc
  have g := GotIs.two (cd u / 256) (cd u % 256) [] (by omega) (by omega) (by omega) (by omega) ⟨(cd u % 256).toNat, by omega, by rw [show (((cd u % 256).toNat : Nat) : Int) = cd u % 256 by omega]; exact hc'⟩ hc'
  rw [he] at g
  have hs : syl (ua (cd u)) (ub (cd u)) (uc (cd u)) = u := by
    unfold cd
    rw [p1, p2, p3]
    exact syl_parts u
  rw [hs] at g
  exact g
def lastc (q : Int) (k : Nat) : Int := if k = 0 then 0 else cd (44032 + q * 588 + ((k : Int) - 1))
theorem lastc_lt {q : Int} {k : Nat} (h0 : 0 ≤ q) (h1 : q ≤ 18) (hk : k < 588) : lastc q k < cd (44032 + q * 588 + (k : Int)) := by
  unfold lastc
  split
  · have := cd_bd (u := 44032 + q * 588 + (k : Int)) (by omega)
    omega
  · have := cd_lt (u := 44032 + q * 588 + ((k : Int) - 1)) (by omega)
    rwa [show 44032 + q * 588 + ((k : Int) - 1) + 1 = 44032 + q * 588 + (k : Int) by omega] at this
theorem lastc_succ (q : Int) (k : Nat) : lastc q (k + 1) = cd (44032 + q * 588 + (k : Int)) := by
  unfold lastc
  rw [if_neg (by omega)]
  congr 2
  omega
theorem bytes_two (x y : Int) (hx : 0 ≤ x ∧ x < 256) (hy : 0 ≤ y ∧ y < 256) : bytesOf (strOfNums [x, y]) = [x, y] := by
  unfold bytesOf strOfNums
  simp only [List.map_cons, List.map_nil, UInt8.toNat_ofNat', List.cons.injEq, and_true]
  omega
set_option maxRecDepth 100000 in
theorem syls_walk (w : World) (ht : Tab w) (f : Int) (_ : (Lit.int .i64 f).wf = true) : Calls Tryd.prog 7 #[.int .i64 f] w fun e w' => e = .returned (.bool true) ∧ Below w.heap.size w w' := by
  have HT := Lib.hid ht
  clear ht
  have hq0 : (0 : Int) ≤ (IntKind.u64.wrap f).tmod 19 := Int.tmod_nonneg _ (wrap_u64_nonneg f)
  have hq1 : (IntKind.u64.wrap f).tmod 19 < 19 := Int.tmod_lt_of_pos _ (by omega)
  obtain ⟨q, hq⟩ : ∃ q, q = (IntKind.u64.wrap f).tmod 19 := ⟨_, rfl⟩
  rw [← hq] at hq0 hq1
  have hw : wrap64 q = q := by unfold wrap64; omega
  have hq' := hq.symm
  clear hq
  go_enter Tryd.func7, Tryd.ntmps7
  go_wp2_with fail
  refine (worksC _ HT.out).mono ?_
  rintro e w1 ⟨rfl, hb1⟩
  have HB1 : Hid (Below w.heap.size w w1) := hb1
  clear hb1
  go_wp2_with fail
  go_loopw [3, 4] (fun a i wr => ∃ k : Nat, k ≤ 588 ∧ i = .int .i64 (k : Int) ∧ a = .int .i64 (lastc q k) ∧ Below w.heap.size w wr) (fun _ i _ => 600 - (intOf i).toNat)
  case atStart => exact ⟨0, by omega, rfl, rfl, HB1.out⟩
  case round =>
    obtain ⟨k, hk, rfl, rfl, hbr⟩ := hrel
    have HBR := Lib.hid hbr
    clear hbr
    by_cases hlt : k < 588
    · have hu : 44032 ≤ 44032 + q * 588 + (k : Int) ∧ 44032 + q * 588 + (k : Int) ≤ 55203 := by omega
      have hll := lastc_lt hq0 (by omega : q ≤ 18) hlt
      have HS := Lib.hid (lastc_succ q k)
      have HG := Lib.hid (got_code hu)
      have hmb := cd_bd hu
      obtain ⟨L, hL⟩ : ∃ L, L = lastc q k := ⟨_, rfl⟩
      rw [← hL] at hll
      rw [← hL]
      clear hL
      have hset := Lib.hid (fun W => set_syl (44032 + q * 588 + (k : Int)) W hu)
      change Hid (∀ W, Tab W → Calls Tryd.prog 13 #[.int .i32 (44032 + q * 588 + (k : Int))] W fun e w' => e = .returned (put 0 (strOfNums [cd (44032 + q * 588 + (k : Int)) / 256, cd (44032 + q * 588 + (k : Int)) % 256])) ∧ Below W.heap.size W w') at hset
      generalize cd (44032 + q * 588 + (k : Int)) = m at *
      go_wp2_with fail
      refine (hset.out _ (HT.out.below HBR.out)).mono ?_
      rintro e w2 ⟨rfl, hb2⟩
      have HB2 : Hid (Below w.heap.size w w2) := on HBR.out hb2
      clear hb2 hset
      obtain ⟨X, hX⟩ : ∃ X, X = strOfNums [m / 256, m % 256] := ⟨_, rfl⟩
      rw [← hX]
      have hXs : X.size = 2 := by rw [hX]; rfl
      have HXB : Hid (bytesOf X = [m / 256, m % 256]) := by rw [hX]; exact bytes_two _ _ (by omega) (by omega)
      have hx0 : ∀ h : 0 < X.size, ((X[0]'h).toNat : Int) = m / 256 := by
        subst hX
        intro h
        show ((UInt8.ofNat (m / 256).toNat).toNat : Int) = m / 256
        rw [UInt8.toNat_ofNat']
        omega
      have hx1 : ∀ h : 1 < X.size, ((X[1]'h).toNat : Int) = m % 256 := by
        subst hX
        intro h
        show ((UInt8.ofNat (m % 256).toNat).toNat : Int) = m % 256
        rw [UInt8.toNat_ofNat']
        omega
      clear hX
      go_upto_region 12 with fail
      have BK := heap_alloc_new w2 (.cells #[.int .i64 0, .string X, .int .i64 0, .int .i64 0, .int .u32 0, .int .i32 0] 32)
      have BW : Hid (Below w.heap.size w (w2.alloc (.cells #[.int .i64 0, .string X, .int .i64 0, .int .i64 0, .int .u32 0, .int .i32 0] 32))) := below_alloc HB2.out _
      have e1 := blk_cell BK 1
      clear BK
      generalize w2.heap.size = g at *
      generalize w2.alloc (.cells #[.int .i64 0, .string X, .int .i64 0, .int .i64 0, .int .u32 0, .int .i32 0] 32) = W at *
      have hx2 : IntKind.i64.wrap (m / 256) = m / 256 := by rw [IntKind.wrap_i64]; omega
      have hx3 : IntKind.i64.wrap (m % 256) = m % 256 := by rw [IntKind.wrap_i64]; omega
      have hx4 : IntKind.i64.wrap (m / 256 * 256) = m / 256 * 256 := by rw [IntKind.wrap_i64]; omega
      have hx5 : IntKind.i64.wrap (m / 256 * 256 + m % 256) = m := by rw [IntKind.wrap_i64]; omega
      go_quiet (fail)
      have BW2 : Hid (Below w.heap.size w (W.drewN nq)) := pw_below_drewN BW.out _
      have e1' : (W.drewN nq).cell? { block := g, off := 1 } = some (.string X) := ((pw_below_drewN (Below.refl W.heap.size W) nq).cell (p := { block := g, off := 1 }) (cell_lt e1)).trans e1
      clear e1 BW hx0 hx1 hx2 hx3 hx4 hx5
      generalize W.drewN nq = W2 at *
      have kb : ∀ W' : World, (convert 9 35 (.string X)).run Tryd.prog W' = .ok (.slice (some ⟨W'.heap.size, 0, none⟩) 2 (grownCap W' 2 0 5)) (Lib.bytesWorld W' 5 X) := fun W' => by
        have := print_bytes (P := Tryd.prog) 9 35 5 Tryd.underlying9 Tryd.underlying35 Tryd.underlying5 X W'
        rw [hXs] at this
        exact this
      have HC2 : Hid (Calls Tryd.prog 15 #[.slice (some ⟨W2.heap.size, 0, none⟩) 2 (grownCap W2 2 0 5)] (Lib.bytesWorld W2 5 X) fun e' w' => e' = .returned (gotV 0 2 1 (44032 + q * 588 + (k : Int))) ∧ Below (Lib.bytesWorld W2 5 X).heap.size (Lib.bytesWorld W2 5 X) w') := by
        have hr := bytes_reads W2 5 X (by omega)
        rw [HXB.out, hXs] at hr
        exact getC _ _ [m / 256, m % 256] _ _ _ _ _ (HT.out.below (bytes_below BW2.out BW2.out.size 5 X)) (Kd.C_of_reads (d := (0 : Int)) hr) HG.out
      have BW3 : Hid (Below w.heap.size w (Lib.bytesWorld W2 5 X)) := bytes_below BW2.out BW2.out.size 5 X
      go_wp2_with fail
      refine HC2.out.mono ?_
      rintro e w5 ⟨rfl, hb5⟩
      have HB5 : Hid (Below w.heap.size w w5) := on BW3.out hb5
      clear hb5 HC2 kb
      go_wp2_with fail
      exact ⟨⟨k + 1, by omega, by go_num, by rw [HS.out], HB5.out⟩, by simp [intOf]; omega⟩
    · go_wp2_with fail
      go_ret
      exact ⟨rfl, HBR.out⟩
end Go.Proofs.YtdihghjjinlaaaaDoor.J
