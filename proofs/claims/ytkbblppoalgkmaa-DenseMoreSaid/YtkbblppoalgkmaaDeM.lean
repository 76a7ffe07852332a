/- DenseMore, walked. -/
import Derived.Test.YtkbblppoalgkmaaDeD
namespace Go.Proofs.Ytkbblppoalgkmaa.De
open Go.RowKit Go.Maps Go.Proofs.YtkbblppoalgkmaaW.PrintWords Go.Proofs.YtkbblppoalgkmaaW.PrintLast Go.Proofs.YtkbblppoalgkmaaW.PrintMore
set_option linter.unusedVariables false
set_option linter.unusedSimpArgs false
theorem rd_app (L r : List Int) (i : Int) (h0 : 0 ≤ i) (h1 : i < (L.length : Int)) : rd (L ++ r) i = rd L i := by
  obtain ⟨n, rfl⟩ := Int.eq_ofNat_of_zero_le h0
  rw [rd_get L n (by omega), rd_get (L ++ r) n (by rw [List.length_append]; omega), List.getElem_append_left]
theorem more1 {first : Int} {L r : List Int} {b : Int} (h : scalOk first L b = true) : scalOk first (L ++ r) b = true ∧ scalF first (L ++ r) b = scalF first L b := by
  have hs := h
  unfold scalOk at h
  obtain ⟨h1, h2, h3⟩ := of_decide_eq_true h
  have hr := rd_app L r (b - first) h1 h2
  have hs2 : scalOk first (L ++ r) b = true := by
    unfold scalOk
    rw [decide_eq_true_iff, hr, List.length_append]
    exact ⟨h1, by omega, h3⟩
  refine ⟨hs2, ?_⟩
  unfold scalF
  rw [if_pos hs, if_pos hs2, hr]
theorem more2 {first : Int} {L r : List Int} {v : Int} (h : bOk L v = true) : bOk (L ++ r) v = true ∧ byteF first (L ++ r) v = byteF first L v := by
  obtain ⟨h1, h2⟩ := (bOk_iff L v).1 h
  have hb : bOk (L ++ r) v = true := (bOk_iff _ _).2 ⟨h1, List.mem_append_left _ h2⟩
  refine ⟨hb, ?_⟩
  unfold byteF idx
  rw [if_pos hb, if_pos h, List.idxOf_append, if_pos h2]
theorem ok_vb {first : Int} {s : ByteArray} (h : errOf first s = 0) : vb s = true := by
  unfold errOf at h
  by_cases a : first < 0 ∨ 255 < first
  · rw [if_pos a] at h
    cases h
  rw [if_neg a] at h
  by_cases b : vb s = false
  · rw [if_pos b] at h
    cases h
  · simpa using b
set_option maxHeartbeats 1000000 in
set_option maxRecDepth 100000 in
theorem denseMoreC (first : Int) (a b : ByteArray) (w : World) : Calls Try.prog 4 #[.int .i64 first, .string a, .string b] w fun e w' => e = .returned (.bool true) ∧ Below w.heap.size w w' := by
  by_cases hlong : (a.size : Int) > 2000 ∨ (b.size : Int) > 2000
  · by_cases ha : (a.size : Int) > 2000
    · go_enter Try.func4, Try.ntmps4
      go_wp2_with fail
      refine (worksC _).mono ?_
      rintro e w1 ⟨rfl, hb1⟩
      have HB1 := Lib.hid hb1
      clear hb1
      go_wp2_with fail
      go_ret
      exact ⟨rfl, HB1.out⟩
    · have hb : (b.size : Int) > 2000 := by omega
      go_enter Try.func4, Try.ntmps4
      go_wp2_with fail
      refine (worksC _).mono ?_
      rintro e w1 ⟨rfl, hb1⟩
      have HB1 := Lib.hid hb1
      clear hb1
      go_wp2_with fail
      go_ret
      exact ⟨rfl, HB1.out⟩
  · have ha : ¬ (a.size : Int) > 2000 := by omega
    have hb : ¬ (b.size : Int) > 2000 := by omega
    have hcat : a.size + b.size ≤ 9223372036854775807 := by omega
    have HA : Hid (a.size ≤ 1000000) := Lib.hid (by omega)
    obtain ⟨cc, hcc⟩ : ∃ cc, cc = a ++ b := ⟨_, rfl⟩
    have HC : Hid (cc.size ≤ 1000000) := Lib.hid (by rw [hcc, ByteArray.size_append]; omega)
    have HCC := Lib.hid hcc
    have HN : ∀ W, Calls Try.prog 7 #[.int .i64 first, .string (a ++ b)] W (NewEnd first cc W) := fun W => by
      rw [← hcc]
      exact newC first cc W HC.out
    have HNN := Lib.hid HN
    clear hlong HN hcc
    go_enter Try.func4, Try.ntmps4
    go_wp2_with fail
    refine (worksC _).mono ?_
    rintro e w1 ⟨rfl, hb1⟩
    have HB1 := Lib.hid hb1
    clear hb1
    go_wp2_with fail
    refine (newC first a w1 HA.out).mono ?_
    rintro e w2 ⟨hb2, h⟩
    have HB2 := Lib.hid (on HB1.out hb2)
    clear hb2
    rcases h with ⟨h, rfl⟩ | ⟨h, g, rfl, ht⟩
    · obtain ⟨c, hc⟩ : ∃ c, c = errOf first a := ⟨_, rfl⟩
      rw [← hc] at h ⊢
      have hc0 : (c != 0) = true := bne_iff_ne.mpr h
      have hc1 : (c == 0) = false := beq_eq_false_iff_ne.mpr h
      clear hc
      go_wp2_with fail
      refine (HNN.out w2).mono ?_
      rintro e w3 ⟨hb3, h3⟩
      have HB3 := Lib.hid (on HB2.out hb3)
      clear hb3
      rcases h3 with ⟨_, rfl⟩ | ⟨_, g, rfl, _⟩
      · obtain ⟨c2, hc2⟩ : ∃ c, c = errOf first cc := ⟨_, rfl⟩
        rw [← hc2]
        clear hc2
        go_wp2_with fail
        go_ret
        exact ⟨rfl, HB3.out⟩
      · go_wp2_with fail
        go_ret
        exact ⟨rfl, HB3.out⟩
    · have HE := Lib.hid h
      have HT := Lib.hid ht
      clear h ht
      go_wp2_with fail
      refine (HNN.out w2).mono ?_
      rintro e w3 ⟨hb3, h3⟩
      have HB3 := Lib.hid (on HB2.out hb3)
      have HTA := Lib.hid (HT.out.below hb3)
      clear hb3 HT
      rcases h3 with ⟨h, rfl⟩ | ⟨h, g2, rfl, ht2⟩
      · obtain ⟨c, hc⟩ : ∃ c, c = errOf first cc := ⟨_, rfl⟩
        rw [← hc] at h ⊢
        have hc0 : (c != 0) = true := bne_iff_ne.mpr h
        have hc1 : (c == 0) = false := beq_eq_false_iff_ne.mpr h
        clear hc
        go_wp2_with fail
        go_ret
        exact ⟨rfl, HB3.out⟩
      · obtain ⟨f0, f1, f2⟩ := ok_bd HE.out
        obtain ⟨r, hr⟩ := more_runes a b (ok_vb HE.out)
        rw [← HCC.out] at hr
        rw [hr] at ht2
        have HTB := Lib.hid ht2
        have HWF : Hid (∀ v ∈ runes a, (Lit.int .i32 v).wf = true) := Lib.hid fun v hv => wf_mem hv
        obtain ⟨L, hL⟩ : ∃ L, L = runes a := ⟨_, rfl⟩
        rw [← hL] at HTA HTB HWF f2
        clear h ht2 hr hL HE
        go_wp2_with fail
        go_loopw [11] (fun i wr => ∃ k : Nat, k ≤ 256 ∧ i = .int .i64 (k : Int) ∧ wr = w3) (fun i _ => 256 - (intOf i).toNat)
        case atStart => exact ⟨0, by omega, rfl, rfl⟩
        case round =>
          obtain ⟨k, hk, rfl, rfl⟩ := hrel
          by_cases hk2 : k < 256
          · have hwr : IntKind.u8.wrap (k : Int) = (k : Int) := by rw [IntKind.wrap_u8]; omega
            have k1 : (k : Int) < 256 := by omega
            obtain ⟨so, hso⟩ : ∃ b, b = scalOk first L (k : Int) := ⟨_, rfl⟩
            obtain ⟨v, hv⟩ : ∃ v, v = scalF first L (k : Int) := ⟨_, rfl⟩
            have hsc := scalarC HTA.out ⟨f0, f1⟩ (k : Int) ⟨by omega, by omega⟩
            rw [← hso, ← hv] at hsc
            have HSC := Lib.hid hsc
            have HSO := Lib.hid hso
            have HV := Lib.hid hv
            clear hsc hso hv
            go_wp2_with fail
            refine HSC.out.mono ?_
            rintro e w5 ⟨rfl, rfl⟩
            clear HSC
            cases so with
            | false =>
              go_wp2_with fail
              go_roundw
              case rel => exact ⟨k + 1, by omega, by go_num, by first | trivial | rfl⟩
              case measure => simp [intOf]; omega
            | true =>
              obtain ⟨c1, c2, c3⟩ := back2 (L := L) HSO.out.symm f0
              obtain ⟨m1, m2⟩ := more1 (r := r) HSO.out.symm
              rw [← HV.out] at c1 c2 c3 m2
              obtain ⟨m3, m4⟩ := more2 (first := first) (r := r) c1
              obtain ⟨y, hy⟩ : ∃ y, y = byteF first L v := ⟨_, rfl⟩
              have hby := byteC HTA.out v (HWF.out v c3)
              have hby2 := byteC HTB.out v (HWF.out v c3)
              have hs2 := scalarC HTB.out ⟨f0, f1⟩ (k : Int) ⟨by omega, by omega⟩
              rw [m1, m2] at hs2
              rw [m3, m4, ← hy] at hby2
              rw [c1, ← hy] at hby
              have HBY := Lib.hid hby
              have HBY2 := Lib.hid hby2
              have HS2 := Lib.hid hs2
              clear hby hby2 hs2 c1 c2 c3 m1 m2 m3 m4 hy HSO HV
              go_wp2_with fail
              refine HS2.out.mono ?_
              rintro e w6 ⟨rfl, rfl⟩
              go_wp2_with fail
              refine HBY.out.mono ?_
              rintro e w7 ⟨rfl, rfl⟩
              go_wp2_with fail
              refine HBY2.out.mono ?_
              rintro e w8 ⟨rfl, rfl⟩
              go_wp2_with fail
              go_roundw
              case rel => exact ⟨k + 1, by omega, by go_num, by first | trivial | rfl⟩
              case measure => simp [intOf]; omega
          · have k1 : ¬ (k : Int) < 256 := by omega
            go_wp2_with fail
            go_ret
            exact ⟨rfl, HB3.out⟩
theorem denseMore_walk (W : World) (first : Int) (wf : (Lit.int .i64 first).wf = true) (a : ByteArray) (wa : a.size ≤ maxLen) (b : ByteArray) (wb : b.size ≤ maxLen) :
    Calls Try.prog 4 #[.int .i64 first, .string a, .string b] W fun e w' => e = .returned (.bool true) ∧ Below W.heap.size W w' := denseMoreC first a b W
end Go.Proofs.Ytkbblppoalgkmaa.De
