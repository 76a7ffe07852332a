/- Utf8Passes, walked: what is passed over never goes into a unit behind. -/
import Derived.Test.YtaogccmbdmheeaaU8Works
import Derived.Test.YtaogccmbdmheeaaU8More
import Derived.Lib.Hide
import Derived.OpenShut
namespace Go.Proofs.Ytaogccmbdmheeaa.U8
open Go.RowKit Go.Proofs.YtaogccmbdmheeaaW.PrintWords Go.Proofs.YtaogccmbdmheeaaW.PrintLast Go.Proofs.YtaogccmbdmheeaaW.PrintMore
theorem info5p : (Try.prog.info? 5).map (fun i => (i.zero, i.size, i.bytes)) = some (some (.int .u8 0), 1, 1) := by kernel_rfl
theorem enc_head {u : Int} (h : Scal u) : ∃ a r, enc u = a :: r ∧ ¬ Con a := by
  obtain ⟨h0, h1, _⟩ := h
  unfold enc Con
  split
  · exact ⟨_, _, rfl, by omega⟩
  · split
    · exact ⟨_, _, rfl, by omega⟩
    · split
      · exact ⟨_, _, rfl, by omega⟩
      · exact ⟨_, _, rfl, by omega⟩
theorem sec_con {a b : Int} (h : Sec a b) : Con b := ⟨h.1, h.2.1⟩
/-- A step at the front of bytes with a unit behind them is whole, and goes no further than to the unit. -/
theorem dec_before {u : Int} (hu : Scal u) (x : List Int) (hx : x ≠ []) : ∃ (e : Int) (n : Nat) (k a : Int), dec (x ++ enc u) = (e, (n : Int), k, a, 0, 0, 0, 0, 0) ∧ e ≠ 1 ∧ 1 ≤ n ∧ n ≤ x.length := by
  obtain ⟨p, r, he, hp⟩ := enc_head hu
  rw [he]
  match x, hx with
  | a :: t, _ =>
    simp only [List.cons_append, dec]
    by_cases c1 : a < 128
    · rw [if_pos c1]
      exact ⟨0, 1, 1, a, rfl, by omega, by omega, by simp⟩
    · rw [if_neg c1]
      by_cases c2 : a < 194
      · rw [if_pos c2]
        exact ⟨10, 1, 0, 0, rfl, by omega, by omega, by simp⟩
      · rw [if_neg c2]
        by_cases c3 : 244 < a
        · rw [if_pos c3]
          exact ⟨10, 1, 0, 0, rfl, by omega, by omega, by simp⟩
        · rw [if_neg c3]
          by_cases c4 : a < 224
          · rw [if_pos c4]
            match t with
            | [] =>
              simp only [List.nil_append, dec2]
              rw [if_neg hp]
              exact ⟨10, 1, 0, 0, rfl, by omega, by omega, by simp⟩
            | b :: t =>
              simp only [List.cons_append, dec2]
              by_cases hb : Con b
              · rw [if_pos hb]
                exact ⟨0, 2, 1, _, rfl, by omega, by omega, by simp⟩
              · rw [if_neg hb]
                exact ⟨10, 1, 0, 0, rfl, by omega, by omega, by simp⟩
          · rw [if_neg c4]
            by_cases c5 : a < 240
            · rw [if_pos c5]
              match t with
              | [] =>
                have hs : ¬ Sec a p := fun h => hp (sec_con h)
                match r with
                | [] =>
                  simp only [List.nil_append, dec3]
                  rw [if_neg hs]
                  exact ⟨10, 1, 0, 0, rfl, by omega, by omega, by simp⟩
                | q :: r =>
                  simp only [List.nil_append, dec3]
                  rw [if_neg hs]
                  exact ⟨10, 1, 0, 0, rfl, by omega, by omega, by simp⟩
              | [b] =>
                simp only [List.cons_append, List.nil_append, dec3]
                by_cases hb : Sec a b
                · rw [if_pos hb, if_neg hp]
                  exact ⟨10, 2, 0, 0, rfl, by omega, by omega, by simp⟩
                · rw [if_neg hb]
                  exact ⟨10, 1, 0, 0, rfl, by omega, by omega, by simp⟩
              | b :: c :: t =>
                simp only [List.cons_append, dec3]
                by_cases hb : Sec a b
                · rw [if_pos hb]
                  by_cases hc : Con c
                  · rw [if_pos hc]
                    exact ⟨0, 3, 1, _, rfl, by omega, by omega, by simp⟩
                  · rw [if_neg hc]
                    exact ⟨10, 2, 0, 0, rfl, by omega, by omega, by simp⟩
                · rw [if_neg hb]
                  exact ⟨10, 1, 0, 0, rfl, by omega, by omega, by simp⟩
            · rw [if_neg c5]
              match t with
              | [] =>
                have hs : ¬ Sec a p := fun h => hp (sec_con h)
                match r with
                | [] => simp only [List.nil_append, dec4]; rw [if_neg hs]; exact ⟨10, 1, 0, 0, rfl, by omega, by omega, by simp⟩
                | [q] => simp only [List.nil_append, dec4]; rw [if_neg hs]; exact ⟨10, 1, 0, 0, rfl, by omega, by omega, by simp⟩
                | q :: q2 :: r => simp only [List.nil_append, dec4]; rw [if_neg hs]; exact ⟨10, 1, 0, 0, rfl, by omega, by omega, by simp⟩
              | [b] =>
                by_cases hb : Sec a b
                · match r with
                  | [] => simp only [List.cons_append, List.nil_append, dec4]; rw [if_pos hb, if_neg hp]; exact ⟨10, 2, 0, 0, rfl, by omega, by omega, by simp⟩
                  | q :: r => simp only [List.cons_append, List.nil_append, dec4]; rw [if_pos hb, if_neg hp]; exact ⟨10, 2, 0, 0, rfl, by omega, by omega, by simp⟩
                · match r with
                  | [] => simp only [List.cons_append, List.nil_append, dec4]; rw [if_neg hb]; exact ⟨10, 1, 0, 0, rfl, by omega, by omega, by simp⟩
                  | q :: r => simp only [List.cons_append, List.nil_append, dec4]; rw [if_neg hb]; exact ⟨10, 1, 0, 0, rfl, by omega, by omega, by simp⟩
              | [b, c] =>
                simp only [List.cons_append, List.nil_append, dec4]
                by_cases hb : Sec a b
                · rw [if_pos hb]
                  by_cases hc : Con c
                  · rw [if_pos hc, if_neg hp]
                    exact ⟨10, 3, 0, 0, rfl, by omega, by omega, by simp⟩
                  · rw [if_neg hc]
                    exact ⟨10, 2, 0, 0, rfl, by omega, by omega, by simp⟩
                · rw [if_neg hb]
                  exact ⟨10, 1, 0, 0, rfl, by omega, by omega, by simp⟩
              | b :: c :: d :: t =>
                simp only [List.cons_append, dec4]
                by_cases hb : Sec a b
                · rw [if_pos hb]
                  by_cases hc : Con c
                  · rw [if_pos hc]
                    by_cases hd : Con d
                    · rw [if_pos hd]
                      exact ⟨0, 4, 1, _, rfl, by omega, by omega, by simp⟩
                    · rw [if_neg hd]
                      exact ⟨10, 3, 0, 0, rfl, by omega, by omega, by simp⟩
                  · rw [if_neg hc]
                    exact ⟨10, 2, 0, 0, rfl, by omega, by omega, by simp⟩
                · rw [if_neg hb]
                  exact ⟨10, 1, 0, 0, rfl, by omega, by omega, by simp⟩
theorem bytesOf_str (l : List Int) (h : ∀ x ∈ l, Byte x) : bytesOf (strOfNums l) = l := by
  unfold bytesOf strOfNums
  simp only [List.map_map]
  conv => rhs; rw [← List.map_id l]
  refine List.map_congr_left (fun x hx => ?_)
  have := h x hx
  unfold Byte at this
  simp only [Function.comp, UInt8.toNat_ofNat', id]
  omega
theorem str_len (u : Int) : (strOfNums (enc u)).size = (enc u).length := by
  unfold strOfNums ByteArray.size
  simp
set_option maxRecDepth 100000 in
theorem passes_yes (A : Option Addr) (c : Nat) (l : List Int) (u : Int) (w : World) (hC : Kd.C (Kd.int .u8) w A l.length l) (hc : l.length ≤ c) (hb : ∀ x ∈ l, Byte x) (hlen : l.length ≤ 2000) (hs : Scal u) :
    Calls Try.prog 7 #[.slice A l.length c, .int .i32 u] w fun e w' => e = .returned (.bool true) ∧ Below w.heap.size w w' := by
  have HC := Lib.hid hC
  have Hc := Lib.hid hc
  have Hb := Lib.hid hb
  have HS := Lib.hid hs
  clear hC hc hb hs
  go_enter Try.func7, Try.ntmps7
  go_wp2_with fail
  refine (works_calls _).mono ?_
  rintro e w1 ⟨rfl, hb1⟩
  have HB1 : Hid (Below w.heap.size w w1) := hb1
  clear hb1
  go_wp2_with fail
  refine (refScalarC u _).mono ?_
  rintro e w2 ⟨rfl, rfl⟩
  rw [decide_eq_true HS.out]
  go_wp2_with fail
  refine (setC u _ HS.out).mono ?_
  rintro e w3 ⟨rfl, hb3⟩
  have HB3 : Hid (Below w.heap.size w w3) := on HB1.out hb3
  clear hb3
  have hf := field_bytes 0 (strOfNums (enc u)) 0 0 0 0
  have HE : Hid ((enc u).length ≤ 4) := (enc_len_bd u).2
  have HZ : Hid ((strOfNums (enc u)).size = (enc u).length) := str_len u
  go_wp2_with (first | (at_builtin; refine print_append_row w.heap.size rfl (.tmp 22) (.tmp 23) 30 5 .u8 1 rfl Try.underlying30 info5p (by omega) (.slice (some ⟨w3.heap.size, 0, none⟩) 0 0) [] l A l.length c rfl rfl (own_lit w3 w.heap.size 5 .u8 [] HB3.out.size (by simp)) (Kd.reads_of_C (enc := Value.int .u8) (d := (0 : Int)) (h1 := fun _ => rfl) (Kd.C_below HC.out (below_alloc HB3.out _))) (below_alloc HB3.out _) (by have := HB3.out.size; simp; omega) (by simp; omega) ?_; intro v4 w4 hown4 hb4 hg4 hat4; clear hg4 hat4; have HO4 : Hid (w4.ownsRow w.heap.size 5 1 v4 l.length (nums .u8 l)) := hown4; have HB4 := Lib.hid hb4; clear hown4 hb4) | (at_builtin; refine print_append_str w.heap.size rfl (.tmp 24) (.tmp 25) 30 9 5 rfl Try.underlying30 Try.underlying9 info5p v4 l (strOfNums (enc u)) rfl rfl HO4.out HB4.out HB4.out.size (by have := HE.out; have := HZ.out; omega) ?_; intro v5 w5 hown5 hb5 hg5; clear hg5; have HO5 := Lib.hid hown5; have HB5 := Lib.hid hb5; clear hown5 hb5))
  have hown := HO5.out
  rw [bytesOf_str _ (enc_bytes HS.out)] at hown
  obtain ⟨F, hF⟩ : ∃ F, F = l ++ enc u := ⟨_, rfl⟩
  rw [← hF] at hown
  have HF := Lib.hid hF
  clear hF
  obtain ⟨A6, c6, rfl, hrd⟩ := own_reads hown
  have hc6 : F.length ≤ c6 := by
    obtain ⟨_, h⟩ := hown
    rcases h with ⟨h, h2⟩ | ⟨g', cap', cur, h, _, _, h2, _⟩
    · injection h with _ h3 h4
      omega
    · injection h with _ h3 h4
      omega
  have HRD : Hid (∀ W', Below w5.heap.size w5 W' → ReadsInt W' .u8 A6 F.length F) := fun W' h => hrd.below h
  have HC6 := Lib.hid hc6
  have HBY : Hid (∀ x ∈ F, Byte x) := by
    intro x hx
    rw [HF.out] at hx
    rcases List.mem_append.1 hx with h | h
    · exact Hb.out x h
    · exact enc_bytes HS.out x h
  have HFL : Hid (F.length = l.length + (enc u).length) := by
    show F.length = _
    rw [HF.out]
    exact List.length_append
  clear hrd hc6 HO5 HO4 hf hown
  obtain ⟨i5, hi5, hz5⟩ := Option.map_eq_some_iff.1 info5p
  simp only [Prod.mk.injEq] at hz5
  have HI := Lib.hid (And.intro hi5 hz5.2.1)
  clear hi5 hz5
  have hsl : Hid ((strOfNums (enc u)).size = (enc u).length) := HZ.out
  go_loopw [7] (fun a wr => ∃ k : Nat, k ≤ l.length ∧ a = .int .i64 (k : Int) ∧ Below w.heap.size w wr ∧ Below w5.heap.size w5 wr) (fun a _ => l.length - (intOf a).toNat)
  case atStart => exact ⟨0, by omega, rfl, HB5.out, Below.refl _ _⟩
  case round =>
    obtain ⟨k, hk, rfl, hba, hbb⟩ := hrel
    have HBA := Lib.hid hba
    have HBB := Lib.hid hbb
    clear hba hbb
    have hle : (k : Int) ≤ (F.length : Int) := by have := HFL.out; omega
    obtain ⟨A7, hcut, hread, hc7⟩ := print_cut_int (P := Try.prog) (k := .u8) 30 5 Try.underlying30 HI.out.1 HI.out.2 A6 c6 F (k : Int) (by omega) hle HC6.out
    obtain ⟨c7, hc7e⟩ : ∃ c7, c7 = c6 - (k : Int).toNat := ⟨_, rfl⟩
    obtain ⟨y, hy⟩ : ∃ y, y = F.drop (k : Int).toNat := ⟨_, rfl⟩
    rw [← hy] at hcut hread hc7
    rw [← hc7e] at hcut hc7
    rw [Int.toNat_natCast] at hy
    have HY := Lib.hid hy
    have HRD7 : Hid (∀ W', Below w5.heap.size w5 W' → Kd.C (Kd.int .u8) W' A7 y.length y) := fun W' h => Kd.C_of_reads (d := (0 : Int)) (hread W' (HRD.out W' h))
    have HC7 := Lib.hid hc7
    have HBY7 : Hid (∀ x ∈ y, Byte x) := fun x hx => HBY.out x (List.mem_of_mem_drop (by rw [← HY.out]; exact hx))
    clear hread hc7 hle hy hc7e
    by_cases hlt : k < l.length
    · obtain ⟨e0, n, kk, aa, hd, he1, hn1, hn2⟩ := dec_before HS.out (l.drop k) (by intro h; have := congrArg List.length h; rw [List.length_drop] at this; simp at this; omega)
      rw [List.length_drop] at hn2
      have hd2 : dec y = (e0, (n : Int), kk, aa, 0, 0, 0, 0, 0) := by rw [HY.out, HF.out, List.drop_append_of_le_length (by omega)]; exact hd
      have HD := Lib.hid hd2
      clear hd hd2
      have hne : ((e0 : Int) == 1) = false := beq_eq_false_iff_ne.2 he1
      go_wp2_with fail
      refine (getC A7 c7 y _ _ _ _ _ _ _ _ _ _ (HRD7.out _ HBB.out) HC7.out HBY7.out HD.out).mono ?_
      rintro e w6 ⟨rfl, hb6⟩
      have HBA6 : Hid (Below w.heap.size w w6) := on HBA.out hb6
      have HBB6 : Hid (Below w5.heap.size w5 w6) := on HBB.out hb6
      clear hb6 hcut
      go_wp2_with fail
      exact ⟨⟨k + n, by omega, by go_num, below_alloc HBA6.out _, below_alloc HBB6.out _⟩, by simp [intOf]; omega⟩
    · have hkl : k = l.length := by omega
      have hd2 : dec y = (0, ((strOfNums (enc u)).size : Int), 1, u, 0, 0, 0, 0, 0) := by
        rw [HY.out, HF.out, hkl, List.drop_left, hsl.out]
        have h := dec_enc HS.out []
        rw [List.append_nil] at h
        exact h
      have HD := Lib.hid hd2
      clear hd2
      have hkk : ((k : Int) == (l.length : Int)) = true := beq_iff_eq.2 (by omega)
      clear hkl
      go_wp2_with fail
      refine (getC A7 c7 y _ _ _ _ _ _ _ _ _ _ (HRD7.out _ HBB.out) HC7.out HBY7.out HD.out).mono ?_
      rintro e w6 ⟨rfl, hb6⟩
      have HBA6 : Hid (Below w.heap.size w w6) := on HBA.out hb6
      clear hb6 hcut
      go_wp2_with fail
      go_ret
      exact ⟨rfl, HBA6.out⟩
set_option maxRecDepth 100000 in
theorem passes_no (A : Option Addr) (c : Nat) (l : List Int) (u : Int) (w : World) (h : ¬ (l.length ≤ 2000 ∧ Scal u)) :
    Calls Try.prog 7 #[.slice A l.length c, .int .i32 u] w fun e w' => e = .returned (.bool true) ∧ Below w.heap.size w w' := by
  by_cases hl : l.length ≤ 2000
  · have hs : ¬ Scal u := fun hs => h ⟨hl, hs⟩
    clear h
    go_enter Try.func7, Try.ntmps7
    go_wp2_with fail
    refine (works_calls _).mono ?_
    rintro e w1 ⟨rfl, hb1⟩
    have HB1 : Hid (Below w.heap.size w w1) := hb1
    clear hb1
    go_wp2_with fail
    refine (refScalarC u _).mono ?_
    rintro e w2 ⟨rfl, rfl⟩
    rw [decide_eq_false hs]
    go_wp2_with fail
    go_ret
    exact ⟨rfl, HB1.out⟩
  · clear h
    go_enter Try.func7, Try.ntmps7
    go_wp2_with fail
    refine (works_calls _).mono ?_
    rintro e w1 ⟨rfl, hb1⟩
    have HB1 : Hid (Below w.heap.size w w1) := hb1
    clear hb1
    go_wp2_with fail
    go_ret
    exact ⟨rfl, HB1.out⟩
/-- What a row's slice of bytes is, read. -/
theorem open_row {w : World} {a : Option Addr} {len cap : Nat} {zs : List Int} (h : (a = none ∧ len = 0 ∧ cap = 0 ∧ zs = []) ∨ ∃ x, a = some x ∧ len ≤ cap ∧ cap ≤ maxLen ∧ zs.length = cap ∧ (∀ i, i < zs.length → w.cell? (x.add i) = some (.int .u8 (zs.getD i 0))) ∧ ∀ n ∈ zs, (Lit.int .u8 n).wf = true) :
    ∃ l : List Int, len = l.length ∧ Kd.C (Kd.int .u8) w a l.length l ∧ l.length ≤ cap ∧ ∀ x ∈ l, Byte x := by
  obtain ⟨l, h1, h2, _, h4, h5⟩ := ReadsInt.ofRowC h
  refine ⟨l, h1, Kd.C_of_reads (d := (0 : Int)) h2, h5, fun x hx => ?_⟩
  have := bounds_u8 (h4 x hx)
  unfold Byte
  omega
theorem passes_walk (w : World) (a : Option Addr) (len cap : Nat) (zs : List Int) (h : (a = none ∧ len = 0 ∧ cap = 0 ∧ zs = []) ∨ ∃ x, a = some x ∧ len ≤ cap ∧ cap ≤ maxLen ∧ zs.length = cap ∧ (∀ i, i < zs.length → w.cell? (x.add i) = some (.int .u8 (zs.getD i 0))) ∧ ∀ n ∈ zs, (Lit.int .u8 n).wf = true)
    (_ : len * 1 ≤ 140737488351232) (u : Int) (_ : (Lit.int .i32 u).wf = true) : Calls Try.prog 7 #[.slice a len cap, .int .i32 u] w fun e w' => e = .returned (.bool true) ∧ Below w.heap.size w w' := by
  obtain ⟨l, rfl, hC, hc, hb⟩ := open_row h
  by_cases hh : l.length ≤ 2000 ∧ Scal u
  · exact passes_yes a cap l u w hC hc hb hh.1 hh.2
  · exact passes_no a cap l u w hh
end Go.Proofs.Ytaogccmbdmheeaa.U8
