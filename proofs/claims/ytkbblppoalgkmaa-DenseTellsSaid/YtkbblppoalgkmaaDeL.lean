/- DenseBack, walked. -/
import Derived.Test.YtkbblppoalgkmaaDeK
namespace Go.Proofs.Ytkbblppoalgkmaa.De
open Go.RowKit Go.Maps Go.Proofs.YtkbblppoalgkmaaW.PrintWords Go.Proofs.YtkbblppoalgkmaaW.PrintLast Go.Proofs.YtkbblppoalgkmaaW.PrintMore
set_option linter.unusedVariables false
set_option linter.unusedSimpArgs false
theorem rd_get (L : List Int) (j : Nat) (h : j < L.length) : rd L (j : Int) = L[j]'h := by
  unfold rd
  rw [Int.toNat_natCast, List.getD_eq_getElem?_getD, List.getElem?_eq_getElem h]
  rfl
theorem rd_mem (L : List Int) (i : Int) (h0 : 0 ≤ i) (h1 : i < (L.length : Int)) : rd L i ∈ L := by
  obtain ⟨n, rfl⟩ := Int.eq_ofNat_of_zero_le h0
  rw [rd_get L n (by omega)]
  exact List.getElem_mem _
theorem idx_le (L : List Int) (j : Nat) (h : j < L.length) (v : Int) (hv : L[j]'h = v) : idx L v ≤ j := by
  rcases Nat.lt_or_ge j (idx L v) with hlt | hge
  · exfalso
    have := List.not_of_lt_findIdx (p := (· == v)) (xs := L) hlt
    rw [hv, beq_self_eq_true] at this
    cases this
  · exact hge
theorem bOk_iff (L : List Int) (u : Int) : bOk L u = true ↔ u ≠ 65533 ∧ u ∈ L := by
  unfold bOk
  exact decide_eq_true_iff
theorem back1 {first : Int} {L : List Int} {u : Int} (h : bOk L u = true) (h0 : 0 ≤ first) (h1 : first + (L.length : Int) ≤ 256) :
    scalOk first L (byteF first L u) = true ∧ scalF first L (byteF first L u) = u ∧ u ≠ 65533 ∧ 0 ≤ byteF first L u ∧ byteF first L u < 256 := by
  obtain ⟨h2, h3⟩ := (bOk_iff L u).1 h
  have hlt := idx_lt L u h3
  have hb : byteF first L u = first + (idx L u : Int) := if_pos h
  have hd : byteF first L u - first = (idx L u : Int) := by omega
  have hr : rd L (byteF first L u - first) = u := by rw [hd, rd_get L _ hlt, idx_at L u h3]
  have hs : scalOk first L (byteF first L u) = true := by
    unfold scalOk
    rw [decide_eq_true_iff, hr]
    exact ⟨by omega, by omega, h2⟩
  refine ⟨hs, ?_, h2, by omega, by omega⟩
  unfold scalF
  rw [if_pos hs, hr]
theorem back2 {first : Int} {L : List Int} {b : Int} (h : scalOk first L b = true) (h0 : 0 ≤ first) : bOk L (scalF first L b) = true ∧ byteF first L (scalF first L b) ≤ b ∧ scalF first L b ∈ L := by
  have hs := h
  unfold scalOk at h
  obtain ⟨h1, h2, h3⟩ := of_decide_eq_true h
  have hv : scalF first L b = rd L (b - first) := if_pos hs
  have hm := rd_mem L (b - first) h1 h2
  rw [hv]
  have hb : bOk L (rd L (b - first)) = true := (bOk_iff _ _).2 ⟨h3, hm⟩
  refine ⟨hb, ?_, hm⟩
  obtain ⟨n, hn⟩ := Int.eq_ofNat_of_zero_le h1
  have hl := idx_le L n (by omega) (rd L (b - first)) (by rw [hn, rd_get L n (by omega)])
  have : byteF first L (rd L (b - first)) = first + (idx L (rd L (b - first)) : Int) := if_pos hb
  omega
theorem wf_mem {s : ByteArray} {v : Int} (h : v ∈ runes s) : (Lit.int .i32 v).wf = true := by
  have := runesF_bd s _ _ v h
  simp [Lit.wf, IntKind.min, IntKind.max, IntKind.signed, IntKind.bits]
  omega
theorem ok_bd {first : Int} {s : ByteArray} (h : errOf first s = 0) : 0 ≤ first ∧ first ≤ 255 ∧ first + ((runes s).length : Int) ≤ 256 := by
  unfold errOf at h
  by_cases a : first < 0 ∨ 255 < first
  · rw [if_pos a] at h
    cases h
  rw [if_neg a] at h
  by_cases b : vb s = false
  · rw [if_pos b] at h
    cases h
  rw [if_neg b] at h
  by_cases c : 256 < first + ((runes s).length : Int)
  · rw [if_pos c] at h
    cases h
  · exact ⟨by omega, by omega, by omega⟩
set_option maxHeartbeats 1000000 in
set_option maxRecDepth 100000 in
theorem denseBackC (first : Int) (s : ByteArray) (u : Int) (hu : (Lit.int .i32 u).wf = true) (w : World) : Calls Try.prog 3 #[.int .i64 first, .string s, .int .i32 u] w fun e w' => e = .returned (.bool true) ∧ Below w.heap.size w w' := by
  have HU := Lib.hid hu
  clear hu
  by_cases hlong : (s.size : Int) > 2000
  · go_enter Try.func3, Try.ntmps3
    go_wp2_with fail
    refine (worksC _).mono ?_
    rintro e w1 ⟨rfl, hb1⟩
    have HB1 := Lib.hid hb1
    clear hb1
    go_wp2_with fail
    go_ret
    exact ⟨rfl, HB1.out⟩
  · have HS : Hid (s.size ≤ 1000000) := Lib.hid (by omega)
    go_enter Try.func3, Try.ntmps3
    go_wp2_with fail
    refine (worksC _).mono ?_
    rintro e w1 ⟨rfl, hb1⟩
    have HB1 := Lib.hid hb1
    clear hb1
    go_wp2_with fail
    refine (newC first s w1 HS.out).mono ?_
    rintro e w2 ⟨hb2, h⟩
    have HB2 := Lib.hid (on HB1.out hb2)
    clear hb2
    rcases h with ⟨h, rfl⟩ | ⟨h, g, rfl, ht⟩
    · obtain ⟨c, hc⟩ : ∃ c, c = errOf first s := ⟨_, rfl⟩
      rw [← hc] at h ⊢
      have hc0 : (c != 0) = true := bne_iff_ne.mpr h
      have hc1 : (c == 0) = false := beq_eq_false_iff_ne.mpr h
      clear hc
      go_wp2_with fail
      go_ret
      exact ⟨rfl, HB2.out⟩
    · obtain ⟨f0, f1, f2⟩ := ok_bd h
      have HT := Lib.hid ht
      have HWF : Hid (∀ v ∈ runes s, (Lit.int .i32 v).wf = true) := Lib.hid fun v hv => wf_mem hv
      obtain ⟨L, hL⟩ : ∃ L, L = runes s := ⟨_, rfl⟩
      rw [← hL] at HT HWF f2
      clear h ht hL
      obtain ⟨bo, hbo⟩ : ∃ b, b = bOk L u := ⟨_, rfl⟩
      obtain ⟨x, hx⟩ : ∃ x, x = byteF first L u := ⟨_, rfl⟩
      have hby := byteC HT.out u HU.out
      rw [← hbo, ← hx] at hby
      have HBY := Lib.hid hby
      have HBO := Lib.hid hbo
      have HX := Lib.hid hx
      clear hby hbo hx
      go_wp2_with fail
      refine HBY.out.mono ?_
      rintro e w3 ⟨rfl, rfl⟩
      clear HBY
      go_upto_if 45 with fail
      go_cut [] (fun wx => wx = w3)
      case first =>
        cases bo with
        | false =>
          go_wp2_with fail
          go_meet
          exact rfl
        | true =>
          obtain ⟨b1, b2, b3, b4, b5⟩ := back1 (L := L) HBO.out.symm f0 f2
          rw [← HX.out] at b1 b2 b4 b5
          have hsc := scalarC HT.out ⟨f0, f1⟩ x ⟨b4, b5⟩
          rw [b1, b2] at hsc
          have HSC := Lib.hid hsc
          have e65 : (u == 65533) = false := beq_eq_false_iff_ne.mpr b3
          clear hsc b1 b2 b3 b4 b5
          go_wp2_with fail
          refine HSC.out.mono ?_
          rintro e w4 ⟨rfl, rfl⟩
          go_wp2_with fail
          go_meet
          exact rfl
      obtain rfl := hcut
      clear HBO HX
      go_wp2_with fail
      go_loopw [13] (fun i wr => ∃ k : Nat, k ≤ 256 ∧ i = .int .i64 (k : Int) ∧ wr = wc) (fun i _ => 256 - (intOf i).toNat)
      case atStart => exact ⟨0, by omega, rfl, rfl⟩
      case round =>
        obtain ⟨k, hk, rfl, rfl⟩ := hrel
        by_cases hk2 : k < 256
        · have hwr : IntKind.u8.wrap (k : Int) = (k : Int) := by rw [IntKind.wrap_u8]; omega
          have k1 : (k : Int) < 256 := by omega
          obtain ⟨so, hso⟩ : ∃ b, b = scalOk first L (k : Int) := ⟨_, rfl⟩
          obtain ⟨v, hv⟩ : ∃ v, v = scalF first L (k : Int) := ⟨_, rfl⟩
          have hsc := scalarC HT.out ⟨f0, f1⟩ (k : Int) ⟨by omega, by omega⟩
          rw [← hso, ← hv] at hsc
          have HSC := Lib.hid hsc
          have HSO := Lib.hid hso
          have HV := Lib.hid hv
          clear hsc hso hv
          go_wp2_with fail
          refine HSC.out.mono ?_
          rintro e w5 ⟨rfl, rfl⟩
          clear HSC
          cases so with
          | false =>
            go_wp2_with fail
            go_roundw
            case rel => exact ⟨k + 1, by omega, by go_num, by first | trivial | rfl⟩
            case measure => simp [intOf]; omega
          | true =>
            obtain ⟨c1, c2, c3⟩ := back2 (L := L) HSO.out.symm f0
            rw [← HV.out] at c1 c2 c3
            obtain ⟨b1, b2, b3, b4, b5⟩ := back1 (L := L) c1 f0 f2
            obtain ⟨y, hy⟩ : ∃ y, y = byteF first L v := ⟨_, rfl⟩
            have hby := byteC HT.out v (HWF.out v c3)
            rw [← hy] at b1 b2 b4 b5 c2 hby
            rw [c1] at hby
            have hs2 := scalarC HT.out ⟨f0, f1⟩ y ⟨b4, b5⟩
            rw [b1, b2] at hs2
            have HBY := Lib.hid hby
            have HS2 := Lib.hid hs2
            have g1 : ¬ y > (k : Int) := by omega
            have y1 : wrap64 y = y := by unfold wrap64; omega
            clear hby hs2 b1 b2 b3 c1 c3 hy
            go_wp2_with fail
            refine HBY.out.mono ?_
            rintro e w6 ⟨rfl, rfl⟩
            go_wp2_with fail
            refine HS2.out.mono ?_
            rintro e w7 ⟨rfl, rfl⟩
            go_wp2_with fail
            go_roundw
            case rel => exact ⟨k + 1, by omega, by go_num, by first | trivial | rfl⟩
            case measure => simp [intOf]; omega
        · have k1 : ¬ (k : Int) < 256 := by omega
          go_wp2_with fail
          go_ret
          exact ⟨rfl, HB2.out⟩
theorem denseBack_walk (W : World) (first : Int) (wf : (Lit.int .i64 first).wf = true) (s : ByteArray) (ws : s.size ≤ maxLen) (u : Int) (wu : (Lit.int .i32 u).wf = true) :
    Calls Try.prog 3 #[.int .i64 first, .string s, .int .i32 u] W fun e w' => e = .returned (.bool true) ∧ Below W.heap.size W w' := denseBackC first s u wu W
end Go.Proofs.Ytkbblppoalgkmaa.De
