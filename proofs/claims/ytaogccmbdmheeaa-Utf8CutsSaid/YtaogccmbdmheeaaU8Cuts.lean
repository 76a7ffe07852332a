/- Utf8Cuts, walked: a cut of whole units is whole units, or is told to want more. -/
import Derived.Test.YtaogccmbdmheeaaU8Sync
namespace Go.Proofs.Ytaogccmbdmheeaa.U8
open Go.RowKit Go.Proofs.YtaogccmbdmheeaaW.PrintWords Go.Proofs.YtaogccmbdmheeaaW.PrintLast Go.Proofs.YtaogccmbdmheeaaW.PrintMore
def encE (u : Int) : List Int := if Scal u then enc u else []
def encs : List Int → List Int
  | [] => []
  | u :: t => encE u ++ encs t
theorem encE_len (u : Int) : (encE u).length ≤ 4 := by
  unfold encE
  split
  · exact (enc_len_bd u).2
  · simp
theorem encs_bytes : ∀ (l : List Int), ∀ x ∈ encs l, Byte x
  | [], x, hx => by simp [encs] at hx
  | u :: t, x, hx => by
    rcases List.mem_append.1 hx with hx | hx
    · unfold encE at hx
      split at hx
      · exact enc_bytes ‹_› x hx
      · simp at hx
    · exact encs_bytes t x hx
theorem encs_snoc : ∀ (l : List Int) (u : Int), encs (l ++ [u]) = encs l ++ encE u
  | [], u => by simp [encs]
  | a :: t, u => by
    rw [List.cons_append, encs, encs_snoc t u, encs, List.append_assoc]
theorem dec_part {u : Int} (h : Scal u) (k : Nat) (h0 : 0 < k) (hk : k < (enc u).length) : dec ((enc u).take k) = more := by
  obtain ⟨h0', h1, h2⟩ := h
  unfold enc at hk ⊢
  split at hk
  · simp at hk; omega
  · split at hk
    · rw [if_neg (by assumption), if_pos (by assumption)]
      obtain rfl : k = 1 := by simp at hk; omega
      simp only [List.take_succ_cons, List.take_zero, dec, dec2]
      rw [if_neg (by omega), if_neg (by omega), if_neg (by omega), if_pos (by omega)]
    · split at hk
      · rw [if_neg (by assumption), if_neg (by assumption), if_pos (by assumption)]
        have : k = 1 ∨ k = 2 := by simp at hk; omega
        rcases this with rfl | rfl
        · simp only [List.take_succ_cons, List.take_zero, dec, dec3]
          rw [if_neg (by omega), if_neg (by omega), if_neg (by omega), if_neg (by omega), if_pos (by omega)]
        · simp only [List.take_succ_cons, List.take_zero, dec, dec3]
          rw [if_neg (by omega), if_neg (by omega), if_neg (by omega), if_neg (by omega), if_pos (by omega), if_pos (by unfold Sec; omega)]
      · rw [if_neg (by assumption), if_neg (by assumption), if_neg (by assumption)]
        have : k = 1 ∨ k = 2 ∨ k = 3 := by simp at hk; omega
        rcases this with rfl | rfl | rfl
        · simp only [List.take_succ_cons, List.take_zero, dec, dec4]
          rw [if_neg (by omega), if_neg (by omega), if_neg (by omega), if_neg (by omega), if_neg (by omega)]
        · simp only [List.take_succ_cons, List.take_zero, dec, dec4]
          rw [if_neg (by omega), if_neg (by omega), if_neg (by omega), if_neg (by omega), if_neg (by omega), if_pos (by unfold Sec; omega)]
        · simp only [List.take_succ_cons, List.take_zero, dec, dec4]
          rw [if_neg (by omega), if_neg (by omega), if_neg (by omega), if_neg (by omega), if_neg (by omega), if_pos (by unfold Sec; omega), if_pos (by unfold Con; omega)]
/-- A cut of units, gone through. -/
theorem cut_scan : ∀ (l : List Int) (k f : Nat), k ≤ (encs l).length → k < f →
    ((scan f ((encs l).take k)).2.2 = 0 ∧ (scan f ((encs l).take k)).2.1 = k) ∨
    ((scan f ((encs l).take k)).2.2 = 1 ∧ (scan f ((encs l).take k)).2.1 < k ∧ k - (scan f ((encs l).take k)).2.1 < 4 ∧ dec (((encs l).take k).drop (scan f ((encs l).take k)).2.1) = more)
  | [], k, f, hk, hf => by
    obtain rfl : k = 0 := by simpa [encs] using hk
    exact .inl (by rw [List.take_zero, scan_nil]; exact ⟨rfl, rfl⟩)
  | u :: t, k, f, hk, hf => by
    by_cases hu : Scal u
    · have he : encs (u :: t) = enc u ++ encs t := by rw [encs, encE, if_pos hu]
      rw [he] at hk ⊢
      rw [List.length_append] at hk
      have hl := enc_len_bd u
      rcases Nat.lt_or_ge k (enc u).length with h1 | h1
      · rw [List.take_append_of_le_length (by omega)]
        rcases Nat.eq_zero_or_pos k with h0 | h0
        · subst h0
          exact .inl (by rw [List.take_zero, scan_nil]; exact ⟨rfl, rfl⟩)
        · obtain ⟨g, rfl⟩ : ∃ g, f = g + 1 := ⟨f - 1, by omega⟩
          have hd := dec_part hu k h0 h1
          have hne : (enc u).take k ≠ [] := by
            intro h
            have : ((enc u).take k).length = 0 := by rw [h]; rfl
            rw [List.length_take] at this
            omega
          rw [scan_more hne hd]
          exact .inr ⟨rfl, h0, by show k - 0 < 4; omega, by simpa using hd⟩
      · obtain ⟨g, rfl⟩ : ∃ g, f = g + 1 := ⟨f - 1, by omega⟩
        have ht : (enc u ++ encs t).take k = enc u ++ (encs t).take (k - (enc u).length) := by
          rw [List.take_append, List.take_of_length_le h1]
        rw [ht, scan_good _ hu]
        rcases cut_scan t (k - (enc u).length) g (by omega) (by omega) with ⟨h2, h3⟩ | ⟨h2, h3, h4, h5⟩
        · exact .inl ⟨h2, by show (enc u).length + _ = k; rw [h3]; omega⟩
        · refine .inr ⟨h2, by show (enc u).length + _ < k; omega, by show k - ((enc u).length + _) < 4; omega, ?_⟩
          show dec ((enc u ++ (encs t).take (k - (enc u).length)).drop ((enc u).length + _)) = more
          rw [← List.drop_drop, List.drop_left]
          exact h5
    · have he : encs (u :: t) = encs t := by rw [encs, encE, if_neg hu, List.nil_append]
      rw [he] at hk ⊢
      exact cut_scan t k f hk hf
theorem bytes_extract (X : ByteArray) (a b : Nat) : bytesOf (X.extract a b) = ((bytesOf X).drop a).take (b - a) := by
  unfold bytesOf
  rw [Lib.extract_data, List.map_take, List.map_drop]
set_option maxRecDepth 100000 in
theorem cuts_yes (A : Option Addr) (c : Nat) (l : List Int) (at_ : Int) (w : World) (hR : ReadsInt w .i32 A l.length l) (hat : (Lit.int .i64 at_).wf = true) (hlen : l.length ≤ 140737488355328) :
    Calls Try.prog 9 #[.slice A l.length c, .int .i64 at_] w fun e w' => e = .returned (.bool true) ∧ Below w.heap.size w w' := by
  have HR := Lib.hid hR
  have hb := bounds_i64 hat
  have HAT := Lib.hid hb
  clear hR hat hb
  go_enter Try.func9, Try.ntmps9
  go_wp2_with fail
  refine (works_calls _).mono ?_
  rintro e w1 ⟨rfl, hb1⟩
  have HB1 : Hid (Below w.heap.size w w1) := hb1
  clear hb1
  go_wp2_with fail
  go_loopw [5, 6] (fun s i wr => ∃ (k : Nat) (S : ByteArray), k ≤ l.length ∧ k ≤ 200 ∧ s = .string S ∧ i = .int .i64 (k : Int) ∧ S.size ≤ 4 * k ∧ Hid (∃ m, S = strOfNums (encs (l.take m)) ∧ m = k) ∧ Below w.heap.size w wr) (fun _ i _ => 300 - (intOf i).toNat)
  case atStart => exact ⟨0, _, by omega, by omega, rfl, rfl, by decide, ⟨0, rfl, rfl⟩, HB1.out⟩
  case round =>
    obtain ⟨k, S, hk, hk2, rfl, rfl, hsz, HS, hbr⟩ := hrel
    have HBR := Lib.hid hbr
    clear hbr
    by_cases hlt : k < l.length ∧ k < 200
    · obtain ⟨hl1, hl2⟩ := hlt
      obtain ⟨a1, rfl, c1⟩ := (HR.out.below HBR.out).at_ (k : Int) (by omega) (by omega)
      rw [Int.toNat_natCast] at c1
      obtain ⟨x, hx⟩ : ∃ x, x = rd l (k : Int) := ⟨_, rfl⟩
      rw [← hx] at c1
      have HX := Lib.hid hx
      clear hx
      have i0 : (0 : Int) ≤ (k : Int) := by omega
      have i1 : (k : Int) < (l.length : Int) := by omega
      have HS2 : Hid (∃ m, S ++ strOfNums (encE x) = strOfNums (encs (l.take m)) ∧ m = k + 1) := by
        obtain ⟨m, h1, h2⟩ := HS.out
        refine ⟨m + 1, ?_, by omega⟩
        rw [h1, h2, List.take_add_one, List.getElem?_eq_getElem hl1, Option.toList_some, encs_snoc, str_append, show l[k] = x by rw [HX.out]; simp [rd, List.getD_eq_getElem?_getD, List.getElem?_eq_getElem hl1]]
      have hz : (strOfNums (encE x)).size ≤ 4 := by rw [str_size]; exact encE_len x
      by_cases hx : Scal x
      · have he : encE x = enc x := if_pos hx
        rw [he] at HS2 hz
        have hf := field_bytes 0 (strOfNums (enc x)) 0 0 0 0
        obtain ⟨Y, hY⟩ : ∃ Y, Y = strOfNums (enc x) := ⟨_, rfl⟩
        rw [← hY] at HS2 hz hf
        have hsum : S.size + Y.size ≤ 9223372036854775807 := by omega
        have HXX := Lib.hid hx
        have HY := Lib.hid hY
        clear hx hY he HX
        go_wp2_with fail
        refine (setC x _ HXX.out).mono ?_
        rw [← HY.out]
        rintro e w2 ⟨rfl, hb2⟩
        have HB2 : Hid (Below w.heap.size w w2) := on HBR.out hb2
        clear hb2
        go_wp2_with fail
        exact ⟨⟨k + 1, _, by omega, by omega, rfl, by go_num, by rw [ByteArray.size_append]; omega, HS2, HB2.out⟩, by simp [intOf]; omega⟩
      · have he : encE x = [] := if_neg hx
        rw [he] at HS2 hz
        have hf := field_bytes 11 ⟨#[]⟩ 0 0 0 0
        obtain ⟨Y, hY⟩ : ∃ Y : ByteArray, Y = ⟨#[]⟩ := ⟨_, rfl⟩
        have hY2 : strOfNums [] = Y := hY.symm
        rw [hY2] at HS2 hz
        rw [← hY] at hf
        have hsum : S.size + Y.size ≤ 9223372036854775807 := by omega
        have HXX := Lib.hid hx
        have HY := Lib.hid hY
        clear hx hY hY2 he HX
        go_wp2_with fail
        refine (setC_not x _ HXX.out).mono ?_
        rw [← HY.out]
        rintro e w2 ⟨rfl, hb2⟩
        have HB2 : Hid (Below w.heap.size w w2) := on HBR.out hb2
        clear hb2
        go_wp2_with fail
        exact ⟨⟨k + 1, _, by omega, by omega, rfl, by go_num, by rw [ByteArray.size_append]; omega, HS2, HB2.out⟩, by simp [intOf]; omega⟩
    · have hq0 : (0 : Int) ≤ (IntKind.u64.wrap at_).tmod ((S.size : Int) + 1) := Int.tmod_nonneg _ (wrap_u64_nonneg at_)
      have hq1 : (IntKind.u64.wrap at_).tmod ((S.size : Int) + 1) < (S.size : Int) + 1 := Int.tmod_lt_of_pos _ (by omega)
      obtain ⟨q, hq⟩ := Int.eq_ofNat_of_zero_le hq0
      rw [hq] at hq1
      have hqS : q ≤ S.size := by omega
      have hw : wrap64 ((IntKind.u64.wrap at_).tmod ((S.size : Int) + 1)) = (q : Int) := by
        rw [hq]
        unfold wrap64
        omega
      have hS8 : S.size ≤ 800 := by omega
      obtain ⟨R, hR⟩ : ∃ R, R = S.extract 0 q := ⟨_, rfl⟩
      have hsl : ∀ W, (Instr.slice 9 (.string S) none (some (.int .i64 (q : Int))) none).run Try.prog W = .ok (.string R) W := fun W => by
        have := run_slice_string_h (P := Try.prog) (w := W) (t := 9) (s := S) (by kernel_rfl) .i64 (q : Int) (by omega) (by omega)
        rw [Int.toNat_natCast, ← hR] at this
        exact this
      have HSb : Hid (∃ m, bytesOf S = encs (l.take m)) := by
        obtain ⟨m, h1, _⟩ := HS.out
        exact ⟨m, by rw [h1, bytesOf_str _ (encs_bytes _)]⟩
      have hRb : bytesOf R = (bytesOf S).take q := by rw [hR, bytes_extract]; simp
      have hRs : R.size = q := by
        rw [← bytesOf_length, hRb, List.length_take, bytesOf_length]
        omega
      have HC0 : Hid (((scan (R.size + 1) (bytesOf R)).2.2 = 0 ∧ (scan (R.size + 1) (bytesOf R)).2.1 = q) ∨
    ((scan (R.size + 1) (bytesOf R)).2.2 = 1 ∧ (scan (R.size + 1) (bytesOf R)).2.1 < q ∧ q - (scan (R.size + 1) (bytesOf R)).2.1 < 4 ∧ dec (((bytesOf S).take q).drop (scan (R.size + 1) (bytesOf R)).2.1) = more)) := by
        obtain ⟨m, h1⟩ := HSb.out
        rw [hRb, hRs, h1]
        exact cut_scan _ q (q + 1) (by rw [← h1, bytesOf_length]; exact hqS) (by omega)
      have HRB := Lib.hid hRb
      have HSB : Hid (∀ x ∈ bytesOf S, Byte x) := by
        obtain ⟨m, h1⟩ := HSb.out
        rw [h1]
        exact encs_bytes _
      have HBY : Hid (∀ x ∈ bytesOf R, Byte x) := by
        intro x hx
        rw [HRB.out] at hx
        exact HSB.out x (List.mem_of_mem_take hx)
      have HRS := Lib.hid hRs
      have HRR := Lib.hid hR
      have hR8 : R.size ≤ 800 := by omega
      have OB := OwnB.conv wr R (by omega)
      have hv := validC (some ⟨wr.heap.size, 0, none⟩) (grownCap wr R.size 0 5) (bytesOf R) (Lib.bytesWorld wr 5 R) OB.reads (by rw [bytesOf_length]; exact grownCap_ge _ _ _ _) HBY.out (by rw [bytesOf_length]; omega)
      rw [bytesOf_length] at hv
      have HV := Lib.hid hv
      obtain ⟨T, hT⟩ : ∃ T, T = scan (R.size + 1) (bytesOf R) := ⟨_, rfl⟩
      rw [← hT] at HC0 HV
      have kb := fun W => print_bytes (P := Try.prog) 9 30 5 Try.underlying9 Try.underlying30 Try.underlying5 R W
      clear hq hq0 hq1 hRb hR hRs OB hv hT HS
      have HBC : Hid (Below w.heap.size w (Lib.bytesWorld wr 5 R)) := bytes_below HBR.out HBR.out.size 5 R
      obtain ⟨us, n, er⟩ := T
      have HRAW := HC0.out
      clear HC0
      rcases HRAW with ⟨e1, e2⟩ | ⟨e1, e2, e3, e4⟩
      · obtain rfl : er = 0 := e1
        obtain rfl : n = q := e2
        rcases Nat.lt_or_ge k l.length with h1 | h1
        · have h2 : 200 ≤ k := by omega
          go_wp2_with fail
          refine HV.out.mono ?_
          rintro e w2 ⟨rfl, hb2⟩
          have HB2 : Hid (Below w.heap.size w w2) := on HBC.out hb2
          clear hb2
          go_wp2_with fail
          go_ret
          exact ⟨rfl, HB2.out⟩
        · go_wp2_with fail
          refine HV.out.mono ?_
          rintro e w2 ⟨rfl, hb2⟩
          have HB2 : Hid (Below w.heap.size w w2) := on HBC.out hb2
          clear hb2
          go_wp2_with fail
          go_ret
          exact ⟨rfl, HB2.out⟩
      · obtain rfl : er = 1 := e1
        have e2 : n < q := e2
        have e3 : q - n < 4 := e3
        obtain ⟨R2, hR2⟩ : ∃ R2, R2 = S.extract n q := ⟨_, rfl⟩
        have hR2b : bytesOf R2 = ((bytesOf S).take q).drop n := by rw [hR2, bytes_extract, List.drop_take]
        have e4 : dec (((bytesOf S).take q).drop n) = more := e4
        rw [← hR2b] at e4
        have HBY2 : Hid (∀ x ∈ bytesOf R2, Byte x) := by
          intro x hx
          rw [hR2b] at hx
          exact HSB.out x (List.mem_of_mem_take (List.mem_of_mem_drop hx))
        have hsl2 : ∀ W, (Instr.slice 9 (.string S) (some (.int .i64 (n : Int))) (some (.int .i64 (q : Int))) none).run Try.prog W = .ok (.string R2) W := fun W => by
          have := run_slice_string (P := Try.prog) (w := W) 9 S .i64 .i64 (n : Int) (q : Int) (by kernel_rfl) (by omega) (by omega) (by omega)
          rw [Int.toNat_natCast, Int.toNat_natCast, ← hR2] at this
          exact this
        have kb2 := fun W => print_bytes (P := Try.prog) 9 30 5 Try.underlying9 Try.underlying30 Try.underlying5 R2 W
        have hR2s : R2.size ≤ 4 := by
          rw [← bytesOf_length, hR2b, List.length_drop, List.length_take]
          omega
        have HG : Hid (∀ (W : World), Calls Try.prog 13 #[.slice (some ⟨W.heap.size, 0, none⟩) R2.size (grownCap W R2.size 0 5)] (Lib.bytesWorld W 5 R2) fun e w' => e = .returned (.agg #[.int .i64 1, .int .i64 0, .int .i64 0, .int .i32 0, .int .i32 0, .int .i64 0, .int .i64 0, .int .u32 0, .int .i32 0]) ∧ Below (Lib.bytesWorld W 5 R2).heap.size (Lib.bytesWorld W 5 R2) w') := by
          intro W
          have OB := OwnB.conv W R2 (by omega)
          have hv := getC (some ⟨W.heap.size, 0, none⟩) (grownCap W R2.size 0 5) (bytesOf R2) _ _ _ _ _ _ _ _ _ (Lib.bytesWorld W 5 R2) OB.reads (by rw [bytesOf_length]; exact grownCap_ge _ _ _ _) HBY2.out e4
          rw [bytesOf_length] at hv
          exact hv
        clear e4 hR2b hR2
        rcases Nat.lt_or_ge k l.length with h1 | h1
        · have h2 : 200 ≤ k := by omega
          go_wp2_with fail
          refine HV.out.mono ?_
          rintro e w2 ⟨rfl, hb2⟩
          have HB2 : Hid (Below w.heap.size w w2) := on HBC.out hb2
          have HBC2 : Hid (Below w.heap.size w (Lib.bytesWorld w2 5 R2)) := bytes_below HB2.out HB2.out.size 5 R2
          clear hb2 hsl kb
          go_wp2_with fail
          refine (HG.out w2).mono ?_
          rintro e w3 ⟨rfl, hb3⟩
          have HB3 : Hid (Below w.heap.size w w3) := on HBC2.out hb3
          clear hb3
          go_wp2_with fail
          go_ret
          exact ⟨rfl, HB3.out⟩
        · go_wp2_with fail
          refine HV.out.mono ?_
          rintro e w2 ⟨rfl, hb2⟩
          have HB2 : Hid (Below w.heap.size w w2) := on HBC.out hb2
          have HBC2 : Hid (Below w.heap.size w (Lib.bytesWorld w2 5 R2)) := bytes_below HB2.out HB2.out.size 5 R2
          clear hb2 hsl kb
          go_wp2_with fail
          refine (HG.out w2).mono ?_
          rintro e w3 ⟨rfl, hb3⟩
          have HB3 : Hid (Below w.heap.size w w3) := on HBC2.out hb3
          clear hb3
          go_wp2_with fail
          go_ret
          exact ⟨rfl, HB3.out⟩
theorem cuts_walk (w : World) (a : Option Addr) (len cap : Nat) (zs : List Int) (h : (a = none ∧ len = 0 ∧ cap = 0 ∧ zs = []) ∨ ∃ x, a = some x ∧ len ≤ cap ∧ cap ≤ maxLen ∧ zs.length = cap ∧ (∀ i, i < zs.length → w.cell? (x.add i) = some (.int .i32 (zs.getD i 0))) ∧ ∀ n ∈ zs, (Lit.int .i32 n).wf = true)
    (hl : len * 4 ≤ 140737488351232) (at_ : Int) (hat : (Lit.int .i64 at_).wf = true) : Calls Try.prog 9 #[.slice a len cap, .int .i64 at_] w fun e w' => e = .returned (.bool true) ∧ Below w.heap.size w w' := by
  obtain ⟨l, rfl, h2, _, h4, h5⟩ := ReadsInt.ofRowC h
  exact cuts_yes a cap l at_ w h2 hat (by omega)
end Go.Proofs.Ytaogccmbdmheeaa.U8
