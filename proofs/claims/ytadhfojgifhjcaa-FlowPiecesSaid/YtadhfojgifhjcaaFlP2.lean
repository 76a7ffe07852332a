/- FlowPieces, walked. -/
import Derived.Test.YtadhfojgifhjcaaFlV
import Derived.Deep.DeepCutAuto
import Derived.Deep.QuietTactic
import Derived.Deep.CutBlock
import Derived.BigQuiet
namespace Go.Proofs.Ytadhfojgifhjcaa.Fl
open Go.RowKit Go.Proofs.YtadhfojgifhjcaaW.PrintWords Go.Proofs.YtadhfojgifhjcaaW.PrintLast Go.Proofs.YtadhfojgifhjcaaW.PrintMore
set_option linter.unusedVariables false
set_option linter.unusedSimpArgs false
theorem rem_lo (a m : Int) (h0 : 0 < m) (h1 : m < 1000000) : 0 ≤ wrap64 ((IntKind.u64.wrap a).tmod m) ∧ wrap64 ((IntKind.u64.wrap a).tmod m) < m := by
  have e : IntKind.u64.wrap a = a % 18446744073709551616 := by rw [IntKind.wrap_u64]
  have p0 : 0 ≤ a % 18446744073709551616 := by omega
  rw [e, Int.tmod_eq_emod_of_nonneg p0]
  have q0 := Int.emod_nonneg (a % 18446744073709551616) (show m ≠ 0 by omega)
  have q1 := Int.emod_lt_of_pos (a % 18446744073709551616) h0
  unfold wrap64
  omega
theorem onP {w w1 w2 : World} (h : Below w.heap.size w w1) (k : Below w1.heap.size w1 w2) : Below w.heap.size w w2 := below_step h k
theorem so_app (a b : List Int) : strOfNums (a ++ b) = strOfNums a ++ strOfNums b := by
  unfold strOfNums
  apply ByteArray.ext
  simp
theorem so_len (xs : List Int) : (strOfNums xs).size = xs.length := by
  unfold strOfNums
  simp [ByteArray.size]
theorem wrap_one (n : Nat) (h : n + 1 ≤ 8) : wrap64 (1 + (n : Int)) = ((n + 1 : Nat) : Int) := by unfold wrap64; omega
theorem wrap_two (n : Nat) (h : n < 50) : wrap64 ((n : Int) + 1) = ((n + 1 : Nat) : Int) := by unfold wrap64; omega
theorem skip_own {w wr : World} {b g : Nat} {l : List Int} {x : Nat} (h : InOne w wr b g l x) (k : Nat) (hk : x + k ≤ l.length) :
    Calls Try.prog 23 #[.pointer (some ⟨g, 0, none⟩), .int .i64 k] wr fun e w' => e = .returned (.bool true) ∧ InOne w w' b g l (x + k) ∧ ∀ base v n ys, wr.ownsRow base 5 1 v n ys → w'.ownsRow base 5 1 v n ys := by
  obtain ⟨A, c, h1, h2, h3, h4, h5, h6, h7⟩ := h
  refine (skipC_yes g A l.length c x k wr (blk_cell h1 0) (blk_cell h1 1) h4 h5 (by omega) (by omega) (blk_frozen h1 1)).mono ?_
  rintro e w' ⟨rfl, m, rfl⟩
  refine ⟨rfl, ⟨A, c, ?_, own_far (show (wr.drewN m).ownsRow b 5 1 _ _ _ from h2) (show (wr.drewN m).heap[g]? = _ from h1) (by decide) _ _, h3, hk, h5, h6, (pw_below_drewN h7 m).setCell (by show w.heap.size ≤ g; omega) _⟩, fun base v n ys ho => own_far (show (wr.drewN m).ownsRow base 5 1 _ _ _ from ho) (show (wr.drewN m).heap[g]? = _ from h1) (by decide) _ _⟩
  have := blk_set (show (wr.drewN m).heap[g]? = _ from h1) 1 (.int .i64 ((x : Int) + (k : Int)))
  rw [show ((x + k : Nat) : Int) = (x : Int) + (k : Int) by omega]
  exact this
theorem two_of_in {w wi : World} {g1 : Nat} {l : List Int} {x : Nat} (h : InOne w wi w.heap.size g1 l x) (R : Int) (hR : 0 ≤ R) (hR1 : R ≤ 1000) :
    Two w (wi.alloc (.cells #[.slice none 0 0, .int .i64 R] 66)) g1 wi.heap.size l x R [] := by
  obtain ⟨A, c, hg, ho, h3, h4, h5, h6, h7⟩ := h
  have hlt1 : g1 < wi.heap.size := (Array.getElem?_eq_some_iff.1 hg).1
  have hal : Below wi.heap.size wi (wi.alloc (.cells #[.slice none 0 0, .int .i64 R] 66)) := below_alloc (Below.refl _ _) _
  exact ⟨A, c, .slice none 0 0, ⟨blk_below hg hal, pw_own_below ho hal⟩, ⟨heap_alloc_new _ _, own_nil _ _ _ _⟩, .inl rfl, by omega, h3, h7.size, below_step h7 hal, h4, h5, by simpa using hR, hR1⟩
set_option maxHeartbeats 8000000 in
set_option maxRecDepth 100000 in
theorem flowPiecesC (A : Option Addr) (c : Nat) (l : List Int) (A1 : Option Addr) (c1 : Nat) (sk : List Int) (room : Int) (w : World) (hC : Kd.C (Kd.int .u8) w A l.length l) (hS : Kd.C (Kd.int .i64) w A1 sk.length sk) (hc : l.length ≤ c) (hn : l.length ≤ 140737488351232) (hb : ∀ y ∈ l, 0 ≤ y ∧ y < 256) :
    Calls Try.prog 8 #[.slice A l.length c, .slice A1 sk.length c1, .int .i64 room] w fun e w' => e = .returned (.bool true) ∧ Below w.heap.size w w' := by
  have HC := Lib.hid hC
  have HS := Lib.hid hS
  clear hC hS hb
  go_enter Try.func8, Try.ntmps8
  go_wp2_with fail
  refine (worksC _).mono ?_
  rintro e w1 ⟨rfl, hb1⟩
  have HB1 := Lib.hid hb1
  clear hb1
  go_wp2_with fail
  refine (newInC A c l w1 (Kd.C_below HC.out HB1.out) (by omega)).mono ?_
  rintro e w2 ⟨g1, A4, c4, rfl, hg4, ho4, hl4, hb4⟩
  have HJ : Hid (InOne w w2 w.heap.size g1 l 0) := Lib.hid ⟨A4, c4, hg4, own_less ho4 HB1.out.size, Nat.le_trans HB1.out.size hl4, Nat.zero_le _, by omega, Nat.le_refl _, onP HB1.out hb4⟩
  clear hg4 ho4 hl4 hb4 HB1
  go_wp2_with fail
  go_loopw [8, 9] (fun s i wr => ∃ (k x : Nat), s = .string (strOfNums (l.take x)) ∧ i = .int .i64 (k : Int) ∧ k ≤ x ∧ x ≤ l.length ∧ Hid (InOne w wr w.heap.size g1 l x)) (fun _ i _ => l.length - (intOf i).toNat)
  case atStart => exact ⟨0, 0, rfl, rfl, Nat.le_refl _, Nat.zero_le _, HJ⟩
  case round =>
    obtain ⟨k, x, rfl, rfl, hk, hx, H1⟩ := hrel
    clear HJ
    obtain ⟨m, hm⟩ : ∃ m, m = l.take x := ⟨_, rfl⟩
    have hml : m.length = x := by rw [hm, List.length_take]; omega
    rw [← hm]
    have HM := Lib.hid hm
    have HML := Lib.hid hml
    clear hm hml
    obtain ⟨S1, hS1⟩ : ∃ S1, S1 = strOfNums m := ⟨_, rfl⟩
    rw [← hS1]
    have HS1 := Lib.hid hS1
    clear hS1
    obtain ⟨r, hr⟩ : ∃ r, r = l.length - x := ⟨_, rfl⟩
    have hlf := left_in H1.out
    rw [← hr] at hlf
    have HLF := Lib.hid hlf
    clear hlf
    go_wp2_with fail
    refine HLF.out.mono ?_
    rintro e w5 ⟨rfl, n5, rfl⟩
    have H5 := Lib.hid (H1.out.drewN n5)
    clear H1 HLF
    generalize wr.drewN n5 = w5 at *
    by_cases hxx : x < l.length
    · have h0 : (r : Int) > 0 := by omega
      have h1 : wrap64 ((l.length : Int) + 60) = (l.length : Int) + 60 := by unfold wrap64; omega
      have h2 : (k : Int) < (l.length : Int) + 60 := by omega
      go_upto_if 33 with fail
      go_cut [10] (fun v wx => (∃ n : Nat, v = .int .i64 (n : Int) ∧ 1 ≤ n ∧ n ≤ 8) ∧ w5 = wx)
      case first =>
        by_cases hq : k < sk.length
        · obtain ⟨a2, rfl, hs2⟩ := Kd.at_int HS.out (k : Int) (by omega) (by omega)
          rw [Int.toNat_natCast] at hs2
          obtain ⟨q, hqn⟩ : ∃ q, q = rd sk (k : Int) := ⟨_, rfl⟩
          rw [← hqn] at hs2
          have hcs : w5.cell? (a2.add k) = some (.int .i64 q) := pw_cell_below H5.out.bel hs2
          clear hs2 hqn
          have j0 : (0 : Int) ≤ (k : Int) := by omega
          have j1 : (k : Int) < (sk.length : Int) := by omega
          obtain ⟨n, hnn, hlo⟩ : ∃ n : Nat, wrap64 ((IntKind.u64.wrap q).tmod 8) = (n : Int) ∧ (1 ≤ n + 1 ∧ n + 1 ≤ 8) := by
            obtain ⟨h0, h1⟩ := rem_lo q 8 (by omega) (by omega)
            obtain ⟨v, hv⟩ : ∃ v, v = wrap64 ((IntKind.u64.wrap q).tmod 8) := ⟨_, rfl⟩
            rw [← hv] at h0 h1 ⊢
            clear hv
            exact ⟨v.toNat, (Int.toNat_of_nonneg h0).symm, by omega⟩
          have hn1 := wrap_one n hlo.2
          have HLO := Lib.hid hlo
          clear hlo
          go_wp2_with fail
          go_meet
          exact ⟨⟨n + 1, congrArg (Value.int IntKind.i64) hn1, HLO.out.1, HLO.out.2⟩, rfl⟩
        · have j1 : ¬ (k : Int) < (sk.length : Int) := by omega
          go_wp2_with fail
          go_meet
          exact ⟨⟨1, rfl, Nat.le_refl _, by decide⟩, rfl⟩
      obtain ⟨⟨n, rfl, hn1, hn8⟩, rfl⟩ := hcut
      obtain ⟨j, hj⟩ : ∃ j : Nat, (j : Int) = min (max (n : Int) 0) ((l.length : Int) - (x : Int)) := ⟨(min (max (n : Int) 0) ((l.length : Int) - (x : Int))).toNat, by omega⟩
      obtain ⟨xs, hxs⟩ : ∃ xs, xs = (l.drop x).take j := ⟨_, rfl⟩
      have hpk := peek_in H5.out n j hj
      rw [← hxs] at hpk
      have hxl : xs.length = j := by rw [hxs, List.length_take, List.length_drop]; omega
      have HPK := Lib.hid hpk
      have hxj : x + xs.length ≤ l.length := by omega
      have hjn : ¬ ((xs.length : Int) > (n : Int)) := by omega
      have hj1 : 1 ≤ xs.length := by omega
      have hjn2 : ¬ n < xs.length := by omega
      have hjr : (xs.length : Int) < (n : Int) → xs.length = r := by omega
      have HTK : Hid (l.take (x + xs.length) = m ++ xs) := Lib.hid (by rw [HM.out, hxl, hxs, List.take_add])
      have hszz : S1.size + (strOfNums xs).size ≤ 9223372036854775807 := by
        rw [HS1.out, so_len, so_len]
        have := HML.out
        omega
      obtain ⟨S2, hS2⟩ : ∃ S2, S2 = strOfNums xs := ⟨_, rfl⟩
      rw [← hS2] at hszz
      have HS2 := Lib.hid hS2
      have HCAT : Hid (S1 ++ S2 = strOfNums (l.take (x + xs.length))) := Lib.hid (by rw [HTK.out, so_app, ← HS1.out, ← HS2.out])
      clear hpk hj hxs hS2 hxl
      go_wp2_with fail
      refine HPK.out.mono ?_
      rintro e w7 ⟨v7, rfl, ho7, hb7⟩
      obtain ⟨A7, c7, rfl⟩ := own_slice ho7
      have H7 := Lib.hid (H5.out.below hb7)
      have HO7 := Lib.hid ho7
      clear ho7 hb7 HPK H5
      go_upto_region 12 with fail
      go_cut [68] (fun v wx => v = .bool false ∧ Hid (InOne w wx w.heap.size g1 l (x + xs.length)) ∧ Hid (wx.ownsRow w5.heap.size 5 1 (.slice A7 xs.length c7) xs.length (nums .u8 xs)))
      case first =>
        by_cases hlt : (xs.length : Int) < (n : Int)
        · have hrx := hjr hlt
          have hlf := left_in H7.out
          rw [← hr, ← hrx] at hlf
          have HLF := Lib.hid hlf
          clear hlf hrx hjr
          go_wp2_with fail
          refine HLF.out.mono ?_
          rintro e w8 ⟨rfl, n8, rfl⟩
          have H8 := Lib.hid (H7.out.drewN n8)
          have HO8 : Hid ((w7.drewN n8).ownsRow w5.heap.size 5 1 (.slice A7 xs.length c7) xs.length (nums .u8 xs)) := HO7
          clear H7 HO7 HLF
          generalize w7.drewN n8 = w8 at *
          go_wp2_with fail
          refine (skip_own H8.out xs.length hxj).mono ?_
          rintro e w9 ⟨rfl, h9, ho⟩
          have H9 := Lib.hid h9
          have HO9 := Lib.hid (ho _ _ _ _ HO8.out)
          clear h9 ho H8 HO8
          go_wp2_with fail
          go_meet
          exact ⟨rfl, H9, HO9⟩
        · clear hjr
          go_wp2_with fail
          refine (skip_own H7.out xs.length hxj).mono ?_
          rintro e w9 ⟨rfl, h9, ho⟩
          have H9 := Lib.hid h9
          have HO9 := Lib.hid (ho _ _ _ _ HO7.out)
          clear h9 ho H7 HO7
          go_wp2_with fail
          go_meet
          exact ⟨rfl, H9, HO9⟩
      obtain ⟨rfl, H9, HO9⟩ := hcut
      have hcv := own_string (w := wc) Try.underlying31 Try.underlying5 Try.underlying9 HO9.out
      rw [← HS2.out] at hcv
      clear H7 HO7 HO9 hjr hjn
      go_wp2_with fail
      go_roundw
      case rel => exact ⟨k + 1, x + xs.length, by rw [HCAT.out], by go_num, by omega, hxj, H9⟩
      case measure => simp [intOf]; omega
    · have hxl : x = l.length := by omega
      subst hxl
      have h0 : ¬ (r : Int) > 0 := by omega
      have hml2 : S1 = strOfNums l := by rw [HS1.out, HM.out, List.take_length]
      have HBB : Hid (∀ W, Below w.heap.size w W → (convert 31 9 (.slice A l.length c)).run Try.prog W = .ok (.string S1) W) := Lib.hid fun W hW => by
        rw [hml2]
        exact Kd.C_string Try.underlying31 Try.underlying5 Try.underlying9 (Kd.C_below HC.out hW)
      clear hml2
      have hbb := HBB.out _ H5.out.bel
      obtain ⟨R, hR⟩ : ∃ R : Nat, wrap64 ((IntKind.u64.wrap room).tmod 50) = (R : Int) ∧ R < 50 := by
        obtain ⟨h0, h1⟩ := rem_lo room 50 (by omega) (by omega)
        obtain ⟨v, hv⟩ : ∃ v, v = wrap64 ((IntKind.u64.wrap room).tmod 50) := ⟨_, rfl⟩
        rw [← hv] at h0 h1 ⊢
        clear hv
        exact ⟨v.toNat, (Int.toNat_of_nonneg h0).symm, by omega⟩
      obtain ⟨hR0, hR1⟩ := hR
      have hRw := wrap_two R hR1
      have kmk := fun W => print_make (P := Try.prog) 31 5 .u8 1 Try.underlying31 info5 (by decide) (R + 1) (by omega) W
      rw [show ((R + 1 : Nat) : Int) = (R : Int) + 1 by omega] at kmk
      go_wp2_with fail
      refine (at_in H5.out).mono ?_
      rintro e w6 ⟨rfl, n6, rfl⟩
      have H6 := Lib.hid (H5.out.drewN n6)
      clear H5 hbb
      generalize w5.drewN n6 = w6 at *
      have HNO : Hid (Calls Try.prog 15 #[.int .i64 R] w6 fun e w' => e = .returned (.pointer (some ⟨w6.heap.size, 0, none⟩)) ∧ w' = w6.alloc (.cells #[.slice none 0 0, .int .i64 R] 66)) := Lib.hid (by
        have h := newOutC (R : Int) w6
        rwa [show max (R : Int) 0 = (R : Int) by omega] at h)
      have HT := Lib.hid (two_of_in H6.out (R : Int) (by omega) (by omega))
      go_wp2_with fail
      refine HNO.out.mono ?_
      rintro e w7 ⟨rfl, rfl⟩
      clear HNO H6
      generalize w6.alloc (.cells #[.slice none 0 0, .int .i64 R] 66) = W7 at *
      generalize w6.heap.size = g2 at *
      obtain ⟨LS, hLS⟩ : ∃ LS, LS = strOfNums (List.replicate (R + 1) 0) := ⟨_, rfl⟩
      have hlz : LS.size = R + 1 := by rw [hLS, so_len, List.length_replicate]
      have hcm : (convert 31 9 (.slice (some ⟨W7.heap.size, 0, none⟩) (R + 1) (R + 1))).run Try.prog (W7.alloc (.cells (madeCells #[.int .u8 0] (R + 1)) 5)) = .ok (.string LS) (W7.alloc (.cells (madeCells #[.int .u8 0] (R + 1)) 5)) := by
        have ho := own_made W7 W7.heap.size 5 .u8 (R + 1) (Nat.le_refl _) (by omega)
        have h := own_string Try.underlying31 Try.underlying5 Try.underlying9 ho
        rw [← hLS] at h
        exact h
      obtain ⟨LT, hLT⟩ : ∃ LT, LT = LS.extract 0 R := ⟨_, rfl⟩
      have hsl : ∀ W : World, (Instr.slice 9 (.string LS) none (some (.int .i64 (R : Int))) none).run Try.prog W = .ok (.string LT) W := fun W => by
        rw [run_slice_string_h W 9 LS Try.underlying9 .i64 (R : Int) (by omega) (by omega), hLT, Int.toNat_natCast]
      have hlt : LT.size = R := by
        rw [hLT, ByteArray.size_extract]
        omega
      have HLZ := Lib.hid hlz
      have HLT := Lib.hid hlt
      have HT8 := Lib.hid (HT.out.below (below_alloc (Below.refl _ _) (.cells (madeCells #[.int .u8 0] (R + 1)) 5)))
      clear hlz hlt hLS hLT HT
      go_wp2_with fail
      clear hcm kmk
      generalize W7.alloc (.cells (madeCells #[.int .u8 0] (R + 1)) 5) = W8 at *
      refine (put_t_no HT8.out LS (by rw [HLZ.out]; omega) (by rw [HLZ.out]; simp; omega)).mono ?_
      rintro e w9 ⟨rfl, n9, rfl⟩
      have HT9 := Lib.hid (HT8.out.drewN n9)
      clear HT8
      generalize W8.drewN n9 = W9 at *
      go_wp2_with fail
      obtain ⟨zs, hzs⟩ : ∃ zs, zs = [] ++ bytesOf LT := ⟨_, rfl⟩
      have hzl : zs.length = R := by rw [hzs, List.nil_append, bytesOf_length, HLT.out]
      have HZ := Lib.hid hzs
      have HZL := Lib.hid hzl
      clear hzs hzl
      refine (put_t HT9.out LT zs HZ.out (by rw [HLT.out]; simp)).mono ?_
      rintro e w10 ⟨rfl, h10⟩
      have HT10 := Lib.hid h10
      clear h10 HT9
      go_wp2_with fail
      refine (put_t_no HT10.out ⟨#[120]⟩ (by decide) (by rw [HZL.out, show (⟨#[120]⟩ : ByteArray).size = 1 from rfl]; omega)).mono ?_
      rintro e w11 ⟨rfl, n11, rfl⟩
      have HT11 := Lib.hid (HT10.out.drewN n11)
      clear HT10
      generalize w10.drewN n11 = w11 at *
      go_wp2_with fail
      refine (put_t HT11.out ⟨#[]⟩ zs (by simp [bytesOf]) (by rw [HZL.out, show (⟨#[]⟩ : ByteArray).size = 0 from rfl]; omega)).mono ?_
      rintro e w12 ⟨rfl, h12⟩
      have HT12 := Lib.hid h12
      clear h12 HT11
      have hrm := room_t HT12.out
      rw [HZL.out, show (R : Int) - (R : Int) = 0 by omega] at hrm
      have HRM := Lib.hid hrm
      clear hrm
      go_wp2_with fail
      refine HRM.out.mono ?_
      rintro e w13 ⟨rfl, n13, rfl⟩
      have HT13 := Lib.hid (HT12.out.drewN n13)
      clear HT12 HRM
      generalize w12.drewN n13 = w13 at *
      go_wp2_with fail
      refine (bytes_t HT13.out).mono ?_
      rw [show (PartEnd w13 zs fun W => Two w W g1 g2 l l.length (↑R) zs) = _ from rfl]
      rintro e w14 ⟨A14, c14, rfl, _, h14⟩
      have HT14 := Lib.hid h14
      have hzr := HZL.out
      clear h14 HT13
      go_wp2_with fail
      go_ret
      exact ⟨rfl, HT14.out.bel⟩
end Go.Proofs.Ytadhfojgifhjcaa.Fl
