/- Utf8Sync, walked: no unit's bytes stand within two others, but as one of them; a text of three units has just three. -/
import Derived.Test.YtaogccmbdmheeaaU8Reads
import Derived.Lib.Strings
import Derived.Test.YtaogccmbdmheeaaU8App
namespace Go.Proofs.Ytaogccmbdmheeaa.U8
open Go.RowKit Go.Proofs.YtaogccmbdmheeaaW.PrintWords Go.Proofs.YtaogccmbdmheeaaW.PrintLast Go.Proofs.YtaogccmbdmheeaaW.PrintMore
/-- Behind a unit's first byte all are bytes that follow. -/
theorem enc_tail {u : Int} (h : Scal u) : ∀ j b, 0 < j → (enc u)[j]? = some b → Con b := by
  obtain ⟨h0, h1, _⟩ := h
  intro j b hj
  unfold enc Con
  split
  · intro hb
    match j, hj with
    | j + 1, _ => simp at hb
  · split
    · intro hb
      match j, hj with
      | 1, _ => simp at hb; omega
      | j + 2, _ => simp at hb
    · split
      · intro hb
        match j, hj with
        | 1, _ => simp at hb; omega
        | 2, _ => simp at hb; omega
        | j + 3, _ => simp at hb
      · intro hb
        match j, hj with
        | 1, _ => simp at hb; omega
        | 2, _ => simp at hb; omega
        | 3, _ => simp at hb; omega
        | j + 4, _ => simp at hb
/-- The first byte tells how many they are. -/
theorem enc_width {u v : Int} (hu : Scal u) (hv : Scal v) (h : (enc u)[0]? = (enc v)[0]?) : (enc u).length = (enc v).length := by
  obtain ⟨u0, u1, _⟩ := hu
  obtain ⟨v0, v1, _⟩ := hv
  unfold enc at h ⊢
  repeat' split at h
  all_goals simp at h
  all_goals repeat' split
  all_goals first | rfl | (exfalso; omega)
/-- Where a unit stands within two. -/
theorem sync_place {a b c : Int} (ha : Scal a) (hb : Scal b) (hc : Scal c) (i : Nat) (hi : i + (enc c).length ≤ (enc a).length + (enc b).length) (h : ((enc a ++ enc b).drop i).take (enc c).length = enc c) : i = 0 ∨ i + (enc c).length = (enc a).length + (enc b).length := by
  obtain ⟨p, r, he, hp⟩ := enc_head hc
  have hl := (enc_len_bd c).1
  have h0 : (enc a ++ enc b)[i]? = some p := by
    have := congrArg (fun l : List Int => l[0]?) h
    simp only [List.getElem?_take, List.getElem?_drop, Nat.add_zero] at this
    rw [if_pos (by omega), he] at this
    exact this
  rcases Nat.lt_or_ge i (enc a).length with h1 | h1
  · rw [List.getElem?_append_left h1] at h0
    rcases Nat.eq_zero_or_pos i with h2 | h2
    · exact .inl h2
    · exact absurd (enc_tail ha i p h2 h0) hp
  · rw [List.getElem?_append_right h1] at h0
    rcases Nat.eq_zero_or_pos (i - (enc a).length) with h2 | h2
    · rw [h2] at h0
      have hw := enc_width hb hc (by rw [h0, he]; rfl)
      exact .inr (by omega)
    · exact absurd (enc_tail hb _ p h2 h0) hp
theorem str_append (x y : List Int) : strOfNums x ++ strOfNums y = strOfNums (x ++ y) := by
  unfold strOfNums
  rw [ByteArray.mk_append_mk, List.map_append]
theorem str_size (l : List Int) : (strOfNums l).size = l.length := by
  unfold strOfNums ByteArray.size
  simp
theorem scan_three {a b c : Int} (ha : Scal a) (hb : Scal b) (hc : Scal c) (f : Nat) : scan (f + 4) (enc a ++ enc b ++ enc c) = ([a, b, c], (enc a).length + ((enc b).length + ((enc c).length + 0)), 0) := by
  have h3 := scan_good (f := f + 1) [] hc
  rw [List.append_nil, scan_nil] at h3
  rw [List.append_assoc, scan_good _ ha, scan_good _ hb, h3]
set_option maxRecDepth 100000 in
theorem sync_yes (a b c : Int) (w : World) (ha : Scal a) (hb : Scal b) (hc : Scal c) : Calls Try.prog 10 #[.int .i32 a, .int .i32 b, .int .i32 c] w fun e w' => e = .returned (.bool true) ∧ Below w.heap.size w w' := by
  have HA := Lib.hid ha
  have HB := Lib.hid hb
  have HC := Lib.hid hc
  clear ha hb hc
  go_enter Try.func10, Try.ntmps10
  go_wp2_with fail
  refine (works_calls _).mono ?_
  rintro e w1 ⟨rfl, hb1⟩
  have HB1 : Hid (Below w.heap.size w w1) := hb1
  clear hb1
  go_wp2_with fail
  refine (refScalarC a _).mono ?_
  rintro e w2 ⟨rfl, rfl⟩
  rw [decide_eq_true HA.out]
  go_wp2_with fail
  refine (refScalarC b _).mono ?_
  rintro e w2 ⟨rfl, rfl⟩
  rw [decide_eq_true HB.out]
  go_wp2_with fail
  refine (refScalarC c _).mono ?_
  rintro e w2 ⟨rfl, rfl⟩
  rw [decide_eq_true HC.out]
  go_wp2_with fail
  refine (setC a _ HA.out).mono ?_
  rintro e w2 ⟨rfl, hb2⟩
  have HB2 : Hid (Below w.heap.size w w2) := on HB1.out hb2
  clear hb2
  have hfa := field_bytes 0 (strOfNums (enc a)) 0 0 0 0
  have hfb := field_bytes 0 (strOfNums (enc b)) 0 0 0 0
  have hfc := field_bytes 0 (strOfNums (enc c)) 0 0 0 0
  have la := enc_len_bd a
  have lb := enc_len_bd b
  have lc := enc_len_bd c
  have hab : (strOfNums (enc a)).size + (strOfNums (enc b)).size ≤ 9223372036854775807 := by rw [str_size, str_size]; omega
  go_wp2_with fail
  refine (setC b _ HB.out).mono ?_
  rintro e w3 ⟨rfl, hb3⟩
  have HB3 : Hid (Below w.heap.size w w3) := on HB2.out hb3
  clear hb3
  go_wp2_with fail
  refine (setC c _ HC.out).mono ?_
  rintro e w4 ⟨rfl, hb4⟩
  have HB4 : Hid (Below w.heap.size w w4) := on HB3.out hb4
  clear hb4 hfa hfb hab
  rw [str_append]
  obtain ⟨X, hX⟩ : ∃ X, X = strOfNums (enc a ++ enc b) := ⟨_, rfl⟩
  obtain ⟨Y, hY⟩ : ∃ Y, Y = strOfNums (enc c) := ⟨_, rfl⟩
  rw [← hY] at hfc
  rw [← hX, ← hY]
  have hXs : X.size = (enc a).length + (enc b).length := by rw [hX, str_size, List.length_append]
  have hYs : Y.size = (enc c).length := by rw [hY, str_size]
  have HX := Lib.hid hX
  have HY := Lib.hid hY
  have HXS := Lib.hid hXs
  have HYS := Lib.hid hYs
  have x8 : X.size ≤ 8 := by omega
  have y4 : Y.size ≤ 4 := by omega
  have y1 : 1 ≤ Y.size := by omega
  clear hX hY hXs hYs la lb lc
  go_wp2_with fail
  obtain ⟨Z, hZ⟩ : ∃ Z, X ++ Y = Z := ⟨_, rfl⟩
  have HZ : Hid (Z = strOfNums (enc a ++ enc b ++ enc c)) := by
    show Z = _
    rw [← hZ, HX.out, HY.out, str_append]
  have kb := fun W => print_bytes (P := Try.prog) 9 30 5 Try.underlying9 Try.underlying30 Try.underlying5 Z W
  clear hfc
  have hxy : X.size + Y.size ≤ 9223372036854775807 := by omega
  go_loop [9] (fun i => ∃ k : Nat, k ≤ 9 ∧ i = .int .i64 (k : Int)) (fun i => 20 - (intOf i).toNat)
  case atStart => exact ⟨0, by omega, rfl⟩
  case round =>
    obtain ⟨k, hk, rfl⟩ := hrel
    by_cases hlt : k + Y.size ≤ X.size
    · have hsl : ∀ W, (Instr.slice 9 (.string X) (some (.int .i64 (k : Int))) (some (.int .i64 ((k : Int) + (Y.size : Int)))) none).run Try.prog W = .ok (.string (X.extract k (k + Y.size))) W := fun W => by
        have := run_slice_string (P := Try.prog) (w := W) 9 X .i64 .i64 (k : Int) ((k : Int) + (Y.size : Int)) (by kernel_rfl) (by omega) (by omega) (by omega)
        rw [show ((k : Int) + (Y.size : Int)).toNat = k + Y.size by omega, Int.toNat_natCast] at this
        exact this
      by_cases h0 : k = 0
      · obtain rfl : k = 0 := h0
        clear kb hZ hxy
        go_wp2_with fail
        all_goals exact ⟨⟨1, by omega, rfl⟩, by simp [intOf]⟩
      · by_cases h1 : k + Y.size = X.size
        · have e1 : ((k : Int) != (X.size : Int) - (Y.size : Int)) = false := by
            rw [bne_eq_false_iff_eq]
            omega
          have HH1 := Lib.hid h1
          clear h1 kb hZ hxy
          go_wp2_with fail
          all_goals exact ⟨⟨k + 1, by omega, by go_num⟩, by simp [intOf]; omega⟩
        · have hne : ¬ (X.extract k (k + Y.size)).toList = Y.toList := by
            intro h
            have := sync_place HA.out HB.out HC.out k (by rw [← HXS.out, ← HYS.out]; exact hlt) ?_
            · have e1 := HXS.out
              have e2 := HYS.out
              omega
            · have hh := h
              rw [ByteArray.toList_eq, ByteArray.toList_eq, Lib.extract_data] at hh
              have h2 := congrArg (fun l : List UInt8 => l.map fun b => (b.toNat : Int)) hh
              simp only [List.map_take, List.map_drop] at h2
              have h3 : ((bytesOf X).drop k).take (k + Y.size - k) = bytesOf Y := h2
              have hxy : ∀ x ∈ enc a ++ enc b, Byte x := by
                intro x hx
                rcases List.mem_append.1 hx with hx | hx
                · exact enc_bytes HA.out x hx
                · exact enc_bytes HB.out x hx
              rw [HYS.out, HX.out, HY.out, bytesOf_str _ (enc_bytes HC.out), bytesOf_str _ hxy, show k + (enc c).length - k = (enc c).length by omega] at h3
              exact h3
          have hnb : ((X.extract k (k + Y.size)).toList == Y.toList) = false := by simpa using hne
          clear hne kb hZ hxy h1 h0
          go_wp2_with fail
          exact ⟨⟨k + 1, by omega, by go_num⟩, by simp [intOf]; omega⟩
    · go_wp2_with fail
      have hzs : Z.size = X.size + Y.size := by rw [← hZ]; exact ByteArray.size_append
      have hby : ∀ x ∈ enc a ++ enc b ++ enc c, Byte x := by
        intro x hx
        rcases List.mem_append.1 hx with hx | hx
        · rcases List.mem_append.1 hx with hx | hx
          · exact enc_bytes HA.out x hx
          · exact enc_bytes HB.out x hx
        · exact enc_bytes HC.out x hx
      have hzb : bytesOf Z = enc a ++ enc b ++ enc c := by rw [HZ.out]; exact bytesOf_str _ hby
      have e1 := enc_len_bd a
      have e2 := enc_len_bd b
      have e3 := HXS.out
      have OB := OwnB.conv w4 Z (by omega)
      have h := scalarsC (some ⟨w4.heap.size, 0, none⟩) (grownCap w4 Z.size 0 5) (bytesOf Z) (Lib.bytesWorld w4 5 Z) OB.reads (by rw [bytesOf_length]; exact grownCap_ge _ _ _ _) (by rw [hzb]; exact hby) (by rw [bytesOf_length]; omega)
      rw [bytesOf_length] at h
      have hsc : scan (Z.size + 1) (bytesOf Z) = ([a, b, c], (enc a).length + ((enc b).length + ((enc c).length + 0)), 0) := by
        obtain ⟨m, hm⟩ : ∃ m, Z.size + 1 = m + 4 := ⟨Z.size - 3, by omega⟩
        rw [hm, hzb]
        exact scan_three HA.out HB.out HC.out m
      rw [hsc] at h
      refine h.mono ?_
      rintro e w5 ⟨v5, us, rfl, hus, ho5, hb5⟩
      rw [if_pos rfl] at hus
      subst hus
      obtain ⟨A5, c5, rfl, hr5⟩ := own_reads ho5
      have HB5 : Hid (Below w.heap.size w w5) := on (bytes_below HB4.out HB4.out.size 5 Z) hb5
      obtain ⟨a0, e0, q0⟩ := hr5.at_ 0 (by omega) (by show (0 : Int) < 3; omega)
      obtain rfl : A5 = some a0 := e0
      have q1 : w5.cell? { block := a0.block, off := a0.off + 1 } = some (.int .i32 b) := by
        obtain ⟨a1, e1, q1⟩ := hr5.at_ 1 (by omega) (by show (1 : Int) < 3; omega)
        cases e1
        exact q1
      have q2 : w5.cell? { block := a0.block, off := a0.off + 2 } = some (.int .i32 c) := by
        obtain ⟨a1, e1, q1⟩ := hr5.at_ 2 (by omega) (by show (2 : Int) < 3; omega)
        cases e1
        exact q1
      have q0 : w5.cell? a0 = some (.int .i32 a) := by
        have hz : a0.add (0 : Int).toNat = a0 := by
          cases a0
          simp [Addr.add]
        rw [hz] at q0
        exact q0
      clear hr5 ho5 hb5 hsc hzb hby OB h e1 e2 e3
      go_wp2_with fail
      go_ret
      exact ⟨rfl, HB5.out⟩
set_option maxRecDepth 100000 in
theorem sync_no (a b c : Int) (w : World) (h : ¬ (Scal a ∧ Scal b ∧ Scal c)) : Calls Try.prog 10 #[.int .i32 a, .int .i32 b, .int .i32 c] w fun e w' => e = .returned (.bool true) ∧ Below w.heap.size w w' := by
  go_enter Try.func10, Try.ntmps10
  go_wp2_with fail
  refine (works_calls _).mono ?_
  rintro e w1 ⟨rfl, hb1⟩
  have HB1 : Hid (Below w.heap.size w w1) := hb1
  clear hb1
  go_wp2_with fail
  refine (refScalarC a _).mono ?_
  rintro e w2 ⟨rfl, rfl⟩
  by_cases ha : Scal a
  · rw [decide_eq_true ha]
    go_wp2_with fail
    refine (refScalarC b _).mono ?_
    rintro e w2 ⟨rfl, rfl⟩
    by_cases hb : Scal b
    · rw [decide_eq_true hb]
      go_wp2_with fail
      refine (refScalarC c _).mono ?_
      rintro e w2 ⟨rfl, rfl⟩
      rw [decide_eq_false (fun hc => h ⟨ha, hb, hc⟩)]
      go_wp2_with fail
      go_ret
      exact ⟨rfl, HB1.out⟩
    · rw [decide_eq_false hb]
      go_wp2_with fail
      go_ret
      exact ⟨rfl, HB1.out⟩
  · rw [decide_eq_false ha]
    go_wp2_with fail
    go_ret
    exact ⟨rfl, HB1.out⟩
theorem sync_walk (w : World) (a : Int) (_ : (Lit.int .i32 a).wf = true) (b : Int) (_ : (Lit.int .i32 b).wf = true) (c : Int) (_ : (Lit.int .i32 c).wf = true) : Calls Try.prog 10 #[.int .i32 a, .int .i32 b, .int .i32 c] w fun e w' => e = .returned (.bool true) ∧ Below w.heap.size w w' := by
  by_cases h : Scal a ∧ Scal b ∧ Scal c
  · exact sync_yes a b c w h.1 h.2.1 h.2.2
  · exact sync_no a b c w h
end Go.Proofs.Ytaogccmbdmheeaa.U8
