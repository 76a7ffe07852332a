/- FlowSums, walked. -/
import Derived.Test.YtadhfojgifhjcaaFlV
import Derived.Deep.DeepCutAuto
import Derived.Deep.QuietTactic
import Derived.Deep.CutBlock
import Derived.BigQuiet
import Derived.Deep.RegionHeld3
namespace Go.Proofs.Ytadhfojgifhjcaa.Fl
open Go.RowKit Go.Proofs.YtadhfojgifhjcaaW.PrintWords Go.Proofs.YtadhfojgifhjcaaW.PrintLast Go.Proofs.YtadhfojgifhjcaaW.PrintMore
set_option linter.unusedVariables false
set_option linter.unusedSimpArgs false

section
variable {P : Program} {l : List Oper} {Q : Exit → Act → World → Prop} {md : Region.Mode} {S S2 : World → Prop}
theorem takeY {i : Nat} {oi : Oper} {v : Value} {fuel : Nat} {listed : Array Bool} {a : Act} {w : World} (hi : l[i]? = some oi)
    (hs : Region.noSelect l.toArray = true) (hf : Region.free md l.toArray listed i = true) (hr : (Region.ready md l.toArray listed).contains i = true)
    (hQ : ∀ c a w, Q (.panic c) (a.put oi.dst v) w → Q (.panic c) a w) (hy : YieldsIf P l.toArray S oi v a) (hS : S w)
    (h : wpAnyH P md l.toArray Q S fuel (listed.setIfInBounds i true) (a.put oi.dst v) w) : wpAnyH P md l.toArray Q S (fuel + 1) listed a w :=
  wpAnyH_take (by simpa using hi) hs hf hr hQ hy hS h
theorem goY {i : Nat} {oi : Oper} {fuel : Nat} {listed : Array Bool} {a : Act} {w : World} (hi : l[i]? = some oi) (hr : Region.ready md l.toArray listed = [i])
    (h : ∀ K' : Act → World → Prop, Shut (∀ a w, S w → (S w → wpAnyH P md l.toArray Q S fuel (listed.setIfInBounds i true) a w) → K' a w) → if Region.wanted oi (yielded l.toArray a.tmps) = true then Oper.wp P oi a w K' Q else K' (a.put oi.dst undef) w) :
    wpAnyH P md l.toArray Q S (fuel + 1) listed a w :=
  wpAnyH_ready hr (by simp) (AllReadyH.cons (by simpa using hi) h AllReadyH.nil)
theorem startY {id : Nat} {a : Act} {w : World} (hm : P.follows .mixedOrders = true) (hS : S w.drew)
    (h : S w.drew → wpAnyH P .any l.toArray Q S l.length (List.replicate l.length false).toArray a w.drew) : (Code.region id l.toArray true).wp P Q a w :=
  wp_region_held_drew hm hS (by simpa using h)
/-- A stronger condition from here on. -/
theorem impY (hi : ∀ w, S2 w → S w) : ∀ (fuel : Nat) (listed : Array Bool) (a : Act) (w : World), wpAnyH P md l.toArray Q S2 fuel listed a w → wpAnyH P md l.toArray Q S fuel listed a w
  | 0, _, _, _, h => h
  | fuel + 1, _, _, _, h => ⟨h.1, fun i hj => wpOp_mono (fun a' w' h' => ⟨hi w' h'.1, impY hi fuel _ a' w' h'.2⟩) (h.2 i hj)⟩
end

theorem back_str (xs : List Int) (h : ∀ y ∈ xs, 0 ≤ y ∧ y < 256) : bytesOf (strOfNums xs) = xs := by
  unfold bytesOf strOfNums
  simp only [List.map_map]
  conv => rhs; rw [← List.map_id xs]
  refine List.map_congr_left fun y hy => ?_
  obtain ⟨h0, h1⟩ := h y hy
  simp
  omega
theorem rem_bd (a m : Int) (h0 : 0 < m) (h1 : m < 1000000) : 0 ≤ wrap64 ((IntKind.u64.wrap a).tmod m) ∧ wrap64 ((IntKind.u64.wrap a).tmod m) < m := by
  have e : IntKind.u64.wrap a = a % 18446744073709551616 := by rw [IntKind.wrap_u64]
  have p0 : 0 ≤ a % 18446744073709551616 := by omega
  rw [e, Int.tmod_eq_emod_of_nonneg p0]
  have q0 := Int.emod_nonneg (a % 18446744073709551616) (show m ≠ 0 by omega)
  have q1 := Int.emod_lt_of_pos (a % 18446744073709551616) h0
  unfold wrap64
  omega
theorem on {w w1 w2 : World} (h : Below w.heap.size w w1) (k : Below w1.heap.size w1 w2) : Below w.heap.size w w2 := below_step h k
theorem str_size (xs : List Int) : (strOfNums xs).size = xs.length := by
  unfold strOfNums
  simp [ByteArray.size]
set_option maxHeartbeats 8000000 in
set_option maxRecDepth 100000 in
theorem flowSumsC (A : Option Addr) (c : Nat) (l : List Int) (A1 : Option Addr) (c1 : Nat) (sk : List Int) (room : Int) (w : World) (hC : Kd.C (Kd.int .u8) w A l.length l) (hS : Kd.C (Kd.int .i64) w A1 sk.length sk) (hc : l.length ≤ c) (hn : l.length ≤ 140737488351232) (hb : ∀ y ∈ l, 0 ≤ y ∧ y < 256) :
    Calls Try.prog 7 #[.slice A l.length c, .slice A1 sk.length c1, .int .i64 room] w fun e w' => e = .returned (.bool true) ∧ Below w.heap.size w w' := by
  have HC := Lib.hid hC
  have HS := Lib.hid hS
  have HBY := Lib.hid hb
  clear hC hS hb
  go_enter Try.func7, Try.ntmps7
  go_wp2_with fail
  refine (worksC _).mono ?_
  rintro e w1 ⟨rfl, hb1⟩
  have HB1 := Lib.hid hb1
  clear hb1
  obtain ⟨R, hR⟩ : ∃ R, R = wrap64 ((IntKind.u64.wrap room).tmod 1000) := ⟨_, rfl⟩
  have hRb := rem_bd room 1000 (by omega) (by omega)
  rw [← hR] at hRb
  have HEND : Hid (wrap64 ((IntKind.u64.wrap room).tmod 1000) = R) := Lib.hid hR.symm
  clear hR
  obtain ⟨hR0, hR1⟩ := hRb
  go_wp2_with fail
  rw [HEND.out]
  refine (newInC A c l w1 (Kd.C_below HC.out HB1.out) (by omega)).mono ?_
  rintro e w2 ⟨g1, A4, c4, rfl, hg4, ho4, hl4, hb4⟩
  have HT := Lib.hid (new_two (w := w) (on HB1.out hb4) R hR0 (by omega) (by omega) hg4 (own_less ho4 HB1.out.size) (Nat.le_trans HB1.out.size hl4))
  clear hg4 ho4 hl4 hb4
  have HNO : Hid (Calls Try.prog 15 #[.int .i64 R] w2 fun e w' => e = .returned (.pointer (some ⟨w2.heap.size, 0, none⟩)) ∧ w' = w2.alloc (.cells #[.slice none 0 0, .int .i64 R] 66)) := Lib.hid (by
    have h := newOutC R w2
    rwa [show max R 0 = R by omega] at h)
  go_wp2_with fail
  refine HNO.out.mono ?_
  rintro e w3 ⟨rfl, rfl⟩
  clear HNO
  generalize w2.alloc (.cells #[.slice none 0 0, .int .i64 R] 66) = W3 at *
  generalize w2.heap.size = g2 at *
  go_wp2_with fail
  go_loopw [9] (fun i wr => ∃ (k x : Nat), k ≤ sk.length ∧ i = .int .i64 (k : Int) ∧ x ≤ l.length ∧ Hid (Two w wr g1 g2 l x R (l.take x))) (fun i _ => sk.length - (intOf i).toNat)
  case atStart => exact ⟨0, 0, Nat.zero_le _, rfl, Nat.zero_le _, HT⟩
  case round =>
    obtain ⟨k, x, hk, rfl, hx, H1⟩ := hrel
    clear HT
    obtain ⟨m, hm⟩ : ∃ m, m = l.take x := ⟨_, rfl⟩
    have hml : m.length = x := by rw [hm, List.length_take]; omega
    rw [← hm] at H1
    have HM := Lib.hid hm
    clear hm
    by_cases hqq : k < sk.length ∧ k < 60
    · obtain ⟨hq1, hq2⟩ := hqq
      obtain ⟨a2, rfl, hs2⟩ := Kd.at_int HS.out (k : Int) (by omega) (by omega)
      rw [Int.toNat_natCast] at hs2
      obtain ⟨q, hqn⟩ : ∃ q, q = rd sk (k : Int) := ⟨_, rfl⟩
      rw [← hqn] at hs2
      have hcs : wr.cell? (a2.add k) = some (.int .i64 q) := pw_cell_below H1.out.bel hs2
      clear hs2 hqn
      have j0 : (0 : Int) ≤ (k : Int) := by omega
      have j1 : (k : Int) < (sk.length : Int) := by omega
      have j2 : (k : Int) < 60 := by omega
      obtain ⟨n, hnn⟩ : ∃ n : Nat, wrap64 ((IntKind.u64.wrap q).tmod 9) = (n : Int) := by
        obtain ⟨h0, h1⟩ := rem_bd q 9 (by omega) (by omega)
        exact ⟨_, (Int.toNat_of_nonneg h0).symm⟩
      go_wp2_with fail
      obtain ⟨j, hj⟩ : ∃ j : Nat, (j : Int) = min (max (n : Int) 0) ((l.length : Int) - (x : Int)) := ⟨(min (max (n : Int) 0) ((l.length : Int) - (x : Int))).toNat, by omega⟩
      obtain ⟨xs, hxs⟩ : ∃ xs, xs = (l.drop x).take j := ⟨_, rfl⟩
      have hpk := peek_t H1.out n j hj
      rw [← hxs] at hpk
      have hxl : xs.length = j := by rw [hxs, List.length_take, List.length_drop]; omega
      have HPK := Lib.hid hpk
      have hxj : x + xs.length ≤ l.length := by omega
      have HZS : Hid (l.take (x + xs.length) = m ++ bytesOf (strOfNums xs)) := Lib.hid (by
        rw [back_str xs (fun y hy => HBY.out y (List.mem_of_mem_drop (List.mem_of_mem_take (by rw [← hxs]; exact hy)))), HM.out, hxl, hxs, List.take_add])
      have hss : (strOfNums xs).size = xs.length := str_size xs
      have HSS := Lib.hid hss
      clear hpk hss hj hxs
      refine HPK.out.mono ?_
      rintro e w4 ⟨A4', c4', rfl, hcv, h4⟩
      have HCV := Lib.hid hcv
      have H4 := Lib.hid h4
      clear hcv h4 HPK H1 hcs hxl hnn
      go_wp2_with fail
      refine (room_t H4.out).mono ?_
      rintro e w5 ⟨rfl, n5, rfl⟩
      have H5 := Lib.hid (H4.out.drewN n5)
      have hcv5 := HCV.out (w4.drewN n5) (pw_below_drewN (Below.refl _ _) _)
      have HCV5 := Lib.hid hcv5
      clear H4 HCV
      generalize w4.drewN n5 = w5 at *
      go_upto_if 46 with fail
      go_cut [] (fun wx => ∃ x', x' ≤ l.length ∧ Hid (Two w wx g1 g2 l x' R (l.take x')))
      case first =>
        by_cases hfit : (xs.length : Int) ≤ R - (m.length : Int)
        · go_wp2_with fail
          refine (put_t H5.out (strOfNums xs) _ HZS.out (by rw [HSS.out]; exact hfit)).mono ?_
          rintro e w6 ⟨rfl, h6⟩
          have H6 := Lib.hid h6
          clear h6 H5
          go_wp2_with fail
          refine (skip_t H6.out xs.length hxj).mono ?_
          rintro e w7 ⟨rfl, h7⟩
          have H7 := Lib.hid h7
          clear h7 H6
          go_wp2_with fail
          go_meet
          exact ⟨x + xs.length, hxj, H7⟩
        · go_wp2_with fail
          refine (put_t_no H5.out (strOfNums xs) (by rw [HSS.out]; omega) (by rw [HSS.out]; omega)).mono ?_
          rintro e w6 ⟨rfl, n6, rfl⟩
          have H6 := Lib.hid (H5.out.drewN n6)
          clear H5
          go_wp2_with fail
          go_meet
          exact ⟨x, hx, by rw [← HM.out]; exact H6⟩
      obtain ⟨x', hx', H7⟩ := hcut
      clear H5 HCV5 hcv5 HZS HSS HM hml
      obtain ⟨m', hm'⟩ : ∃ m', m' = l.take x' := ⟨_, rfl⟩
      rw [← hm'] at H7
      have HM := Lib.hid hm'
      have hml : m'.length = x' := by rw [hm', List.length_take]; omega
      clear hm'
      have hle := H7.out.le
      have e1 : wrap64 ((l.length : Int) - (x' : Int) + (x' : Int)) = (l.length : Int) := by unfold wrap64; omega
      have e2 : wrap64 (R - (m'.length : Int) + (m'.length : Int)) = R := by unfold wrap64; omega
      go_wp2_with fail
      refine (left_t H7.out).mono ?_
      rintro e w8 ⟨rfl, n8, rfl⟩
      have H8 := Lib.hid (H7.out.drewN n8)
      clear H7
      generalize wc.drewN n8 = w8 at *
      go_wp2_with fail
      refine (at_t H8.out).mono ?_
      rintro e w9 ⟨rfl, n9, rfl⟩
      have H9 := Lib.hid (H8.out.drewN n9)
      clear H8
      generalize w8.drewN n9 = w9 at *
      go_wp2_with fail
      refine (room_t H9.out).mono ?_
      rintro e w10 ⟨rfl, n10, rfl⟩
      have H10 := Lib.hid (H9.out.drewN n10)
      clear H9
      generalize w9.drewN n10 = w10 at *
      go_wp2_with fail
      refine (bytes_t H10.out).mono ?_
      rintro e w11 ⟨A11, c11, rfl, hcv, h11⟩
      have H11 := Lib.hid h11
      clear hcv h11 H10
      go_wp2_with fail
      go_roundw
      case rel => exact ⟨k + 1, x', by omega, by go_num, hx', by rw [← HM.out]; exact H11⟩
      case measure => simp [intOf]; omega
    · go_upto_region 6 with fail
      go_cut [29] (fun v wx => v = .bool false ∧ wr = wx)
      case first =>
        by_cases hk1 : k < sk.length
        · have hk2 : 60 ≤ k := by omega
          go_wp2_with fail
          go_meet
          exact ⟨congrArg Value.bool (decide_eq_false (by omega)), rfl⟩
        · go_wp2_with fail
          go_meet
          exact ⟨rfl, rfl⟩
      obtain ⟨rfl, rfl⟩ := hcut
      obtain ⟨i0, hi, hzz⟩ := Option.map_eq_some_iff.1 info5b
      simp only [Prod.mk.injEq] at hzz
      obtain ⟨hz0, hz1, hz2⟩ := hzz
      have hcm : Kd.C (Kd.int .u8) w A m.length m := by
        rw [HM.out]
        exact Kd.C_of_reads (d := (0 : Int)) (reads_take (Kd.reads_of_C (enc := Value.int .u8) (d := (0 : Int)) (h1 := fun _ => rfl) HC.out) x hx)
      have HBB : Hid (∀ W, Below w.heap.size w W → (convert 31 9 (.slice A m.length c)).run Try.prog W = .ok (.string (strOfNums m)) W) := Lib.hid fun W hW => Kd.C_string Try.underlying31 Try.underlying5 Try.underlying9 (Kd.C_below hcm hW)
      have hsl : ∀ W : World, (Instr.slice 31 (.slice A l.length c) none (some (.int .i64 (x : Int))) none).run Try.prog W = .ok (.slice A m.length c) W := by
        have h := (print_take_int (P := Try.prog) (k := .u8) 31 5 Try.underlying31 hi hz1 A c l (x : Int) (by omega) (by omega) hc).1
        rw [Int.toNat_natCast, ← HM.out] at h
        exact h
      have HBYT := Lib.hid (bytes_t H1.out.drew)
      clear hi hz0 hz1 hz2 hcm H1 hqq hml
      go_wp2_with fail
      refine startY (S := fun _ => True) (by kernel_rfl) (trivial) (fun hHeld => ?_)
      refine takeY (i := 0) (v := ?_) rfl (by kernel_rfl) (by kernel_rfl) (by kernel_rfl) (fun _ _ _ h => h) (Or.inl ⟨by rfl, ?_⟩) (by assumption) ?_
      rotate_left
      · intro w hSw
        (try dsimp only at hSw)
        go_simp
        try with_reducible rfl
      simp only [Act.put, List.setIfInBounds_toArray, List.set_cons_zero, List.set_cons_succ]
      refine takeY (i := 3) (v := ?_) rfl (by kernel_rfl) (by kernel_rfl) (by kernel_rfl) (fun _ _ _ h => h) (Or.inl ⟨by rfl, ?_⟩) (by assumption) ?_
      rotate_left
      · intro w hSw
        (try dsimp only at hSw)
        go_simp
        try with_reducible rfl
      simp only [Act.put, List.setIfInBounds_toArray, List.set_cons_zero, List.set_cons_succ]
      refine takeY (i := 4) (v := ?_) rfl (by kernel_rfl) (by kernel_rfl) (by kernel_rfl) (fun _ _ _ h => h) (Or.inl ⟨by rfl, ?_⟩) (by assumption) ?_
      rotate_left
      · intro w hSw
        (try dsimp only at hSw)
        go_simp
        try with_reducible rfl
      simp only [Act.put, List.setIfInBounds_toArray, List.set_cons_zero, List.set_cons_succ]
      refine goY (i := 1) rfl (by kernel_rfl) (fun K hK => ?_)
      go_simp
      with_reducible refine HBYT.out.mono ?_
      rintro e w8 ⟨A8, c8, rfl, hcv8, h8⟩
      have HT8 := Lib.hid h8
      have HCV8 := Lib.hid hcv8
      clear h8 hcv8
      refine hK.out _ _ (trivial) (fun hHeld => ?_)
      clear hK K
      simp only [Act.put, List.setIfInBounds_toArray, List.set_cons_zero, List.set_cons_succ]
      have hHeld2 : (convert 31 9 (.slice A8 m.length c8)).run Try.prog w8 = .ok (.string (strOfNums m)) w8 ∧ (convert 31 9 (.slice A m.length c)).run Try.prog w8 = .ok (.string (strOfNums m)) w8 := ⟨HCV8.out w8 (Below.refl _ _), HBB.out w8 HT8.out.bel⟩
      refine impY (S2 := fun W => (convert 31 9 (.slice A8 m.length c8)).run Try.prog W = .ok (.string (strOfNums m)) W ∧ (convert 31 9 (.slice A m.length c)).run Try.prog W = .ok (.string (strOfNums m)) W) (fun _ _ => trivial) _ _ _ _ ?_
      clear hHeld
      refine takeY (i := 2) (v := ?_) rfl (by kernel_rfl) (by kernel_rfl) (by kernel_rfl) (fun _ _ _ h => h) (Or.inl ⟨by rfl, ?_⟩) (by assumption) ?_
      rotate_left
      · intro w hSw
        (try dsimp only at hSw)
        go_simp
        try with_reducible rfl
      simp only [Act.put, List.setIfInBounds_toArray, List.set_cons_zero, List.set_cons_succ]
      refine goY (i := 5) rfl (by kernel_rfl) (fun K hK => ?_)
      go_simp
      with_reducible refine (at_t HT8.out).mono ?_
      rintro e w9 ⟨rfl, n9, rfl⟩
      have HT9 := Lib.hid (HT8.out.drewN n9)
      have hHeld3 : (convert 31 9 (.slice A8 m.length c8)).run Try.prog (w8.drewN n9) = .ok (.string (strOfNums m)) (w8.drewN n9) ∧ (convert 31 9 (.slice A m.length c)).run Try.prog (w8.drewN n9) = .ok (.string (strOfNums m)) (w8.drewN n9) := ⟨HCV8.out _ (pw_below_drewN (Below.refl _ _) _), HBB.out _ HT9.out.bel⟩
      refine hK.out _ _ (hHeld3) (fun hHeld => ?_)
      clear hK K
      simp only [Act.put, List.setIfInBounds_toArray, List.set_cons_zero, List.set_cons_succ]
      refine takeY (i := 6) (v := ?_) rfl (by kernel_rfl) (by kernel_rfl) (by kernel_rfl) (fun _ _ _ h => h) (Or.inl ⟨by rfl, ?_⟩) (by assumption) ?_
      rotate_left
      · intro w hSw
        (try dsimp only at hSw)
        go_simp
        try with_reducible rfl
      simp only [Act.put, List.setIfInBounds_toArray, List.set_cons_zero, List.set_cons_succ]
      refine takeY (i := 7) (v := ?_) rfl (by kernel_rfl) (by kernel_rfl) (by kernel_rfl) (fun _ _ _ h => h) (Or.inl ⟨by rfl, ?_⟩) (by assumption) ?_
      rotate_left
      · intro w hSw
        (try dsimp only at hSw)
        go_simp
        try with_reducible rfl
      simp only [Act.put, List.setIfInBounds_toArray, List.set_cons_zero, List.set_cons_succ]
      refine takeY (i := 8) (v := ?_) rfl (by kernel_rfl) (by kernel_rfl) (by kernel_rfl) (fun _ _ _ h => h) (Or.inl ⟨by rfl, ?_⟩) (by assumption) ?_
      rotate_left
      · intro w hSw
        (try dsimp only at hSw)
        go_simp
        try with_reducible rfl
      simp only [Act.put, List.setIfInBounds_toArray, List.set_cons_zero, List.set_cons_succ]
      refine takeY (i := 9) (v := ?_) rfl (by kernel_rfl) (by kernel_rfl) (by kernel_rfl) (fun _ _ _ h => h) (Or.inl ⟨by rfl, ?_⟩) (by assumption) ?_
      rotate_left
      · intro w hSw
        (try dsimp only at hSw)
        go_simp
        try with_reducible rfl
      simp only [Act.put, List.setIfInBounds_toArray, List.set_cons_zero, List.set_cons_succ]
      refine wpAnyH_done (by kernel_rfl) ?_ _
      go_wp2_with fail
      go_ret
      exact ⟨rfl, HT9.out.bel⟩
end Go.Proofs.Ytadhfojgifhjcaa.Fl
