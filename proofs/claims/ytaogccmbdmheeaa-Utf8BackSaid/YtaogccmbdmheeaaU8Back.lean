/- Utf8Back, walked: a scalar that is written is read again, whatever follows. -/
import Derived.Test.YtaogccmbdmheeaaU8Works
import Derived.Test.YtaogccmbdmheeaaU8More
import Derived.Test.YtaogccmbdmheeaaU8App
import Derived.Test.YtaogccmbdmheeaaU8Scan
import Derived.Lib.Bytes
import Derived.Lib.Hide
import Derived.Outline
import Derived.WalkSpells
import Derived.Deep.DeepCutAuto
import Derived.Deep.RegionHeld3
import Derived.Deep.RegionLaw
import Derived.Deep.DrawnRows
namespace Go.Proofs.Ytaogccmbdmheeaa.U8
open Go.RowKit Go.Proofs.YtaogccmbdmheeaaW.PrintWords Go.Proofs.YtaogccmbdmheeaaW.PrintLast Go.Proofs.YtaogccmbdmheeaaW.PrintMore
attribute [local go_sem] min_two
attribute [local go_sem ↓] Go.wp_at_zero Go.wp_at_succ
set_option maxHeartbeats 4000000 in
set_option maxRecDepth 100000 in
theorem back_scal (u r1 r3 v : Int) (A : Option Addr) (c : Nat) (l : List Int) (w : World) (hC : Kd.C (Kd.int .u8) w A l.length l) (hc : l.length ≤ c) (hb : ∀ x ∈ l, Byte x) (hlen : l.length ≤ 140737488351232) (n : Nat)
    (hd : dec l = (r1, (n : Int), r3, v, 0, 0, 0, 0, 0)) (hcase : (r1 = 0 ∧ Scal v ∧ 1 ≤ n ∧ n ≤ l.length ∧ l.take n = enc v) ∨ (r1 == 0) = false) (hs : Scal u) :
    Calls Try.prog 6 #[.int .i32 u, .slice A l.length c] w fun e w' => e = .returned (.bool true) ∧ Below w.heap.size w w' := by
  have HC := Lib.hid hC
  have Hc := Lib.hid hc
  have HD := Lib.hid hd
  have Hb := Lib.hid hb
  clear hC hc hd hb
  go_enter Try.func6, Try.ntmps6
  go_wp2_with fail
  refine (works_calls _).mono ?_
  rintro e w1 ⟨rfl, hb1⟩
  have HB1 : Hid (Below w.heap.size w w1) := hb1
  clear hb1
  go_wp2_with fail
  refine (getC A c l _ _ _ _ _ _ _ _ _ _ (Kd.C_below HC.out HB1.out) Hc.out Hb.out HD.out).mono ?_
  rintro e w2 ⟨rfl, hb2⟩
  have HB2 : Hid (Below w.heap.size w w2) := on HB1.out hb2
  clear hb2
  go_wp2_with fail
  have k0 : (w2.alloc (.cells #[.int .i64 r1, .int .i64 (n : Int), .int .i64 r3, .int .i32 v, .int .i32 0, .int .i64 0, .int .i64 0, .int .u32 0, .int .i32 0] 32)).cell? ⟨w2.heap.size, 0, none⟩ = some (.int .i64 r1) := blk_cell (heap_alloc_new _ _) 0
  have k1 : (w2.alloc (.cells #[.int .i64 r1, .int .i64 (n : Int), .int .i64 r3, .int .i32 v, .int .i32 0, .int .i64 0, .int .i64 0, .int .u32 0, .int .i32 0] 32)).cell? ⟨w2.heap.size, 1, none⟩ = some (.int .i64 n) := blk_cell (heap_alloc_new _ _) 1
  have k3 : (w2.alloc (.cells #[.int .i64 r1, .int .i64 (n : Int), .int .i64 r3, .int .i32 v, .int .i32 0, .int .i64 0, .int .i64 0, .int .u32 0, .int .i32 0] 32)).cell? ⟨w2.heap.size, 3, none⟩ = some (.int .i32 v) := blk_cell (heap_alloc_new _ _) 3
  have hbW := below_alloc HB2.out (.cells #[.int .i64 r1, .int .i64 (n : Int), .int .i64 r3, .int .i32 v, .int .i32 0, .int .i64 0, .int .i64 0, .int .u32 0, .int .i32 0] 32)
  generalize hg : w2.heap.size = g at *
  generalize (w2.alloc (.cells #[.int .i64 r1, .int .i64 (n : Int), .int .i64 r3, .int .i32 v, .int .i32 0, .int .i64 0, .int .i64 0, .int .u32 0, .int .i32 0] 32)) = W at *
  clear hg HB2
  have HBW : Hid (Below w.heap.size w W) := hbW
  clear hbW
  go_cut [28] (fun s wx => s = .bool false ∧ Hid (Below w.heap.size w wx))
  case first =>
    rcases hcase with ⟨rfl, hv, hn1, hn, htk⟩ | hne
    · have hnc : n ≤ c := Nat.le_trans hn Hc.out
      have hcv : ∀ W', Below w.heap.size w W' → (convert 30 9 (.slice A n c)).run Try.prog W' = .ok (.string (strOfNums (enc v))) W' := by
        intro W' hW'
        have h1 := Kd.C_take (m := n) (Kd.C_below HC.out hW') hn
        rw [List.length_take, Nat.min_eq_left hn, htk] at h1
        exact Kd.C_string (P := Try.prog) Try.underlying30 Try.underlying5 Try.underlying9 h1
      have HCV := Lib.hid hcv
      clear hcv htk
      obtain ⟨i5, hi5, hz5⟩ := Option.map_eq_some_iff.1 info5
      simp only [Prod.mk.injEq] at hz5
      have hsl : ∀ W : World, (Instr.slice 30 (.slice A l.length c) none (some (.int .i64 (n : Int))) none).run Try.prog W = .ok (.slice A n c) W := by
        have h := (print_take_int (P := Try.prog) (k := .u8) 30 5 Try.underlying30 hi5 hz5.2.1 A c l (n : Int) (by omega) (by omega) Hc.out).1
        rw [Int.toNat_natCast, List.length_take, Nat.min_eq_left hn] at h
        exact h
      clear hi5 hz5
      have hmin : Builtin.min2 (.int .i64 (n : Int)) (.int .i64 (l.length : Int)) = pure (.int .i64 (n : Int)) := by
        rw [min2_int, if_neg (by omega)]
      have i0 : (0 : Int) ≤ (n : Int) := by omega
      have i1 : (n : Int) ≤ (l.length : Int) := by omega
      have i2 : (n : Int) ≤ (c : Int) := by omega
      have i3 : ¬ ((l.length : Int) < (n : Int)) := by omega
      go_region_held3 (fun w' => w'.cell? ⟨g, 0, none⟩ = some (.int .i64 0) ∧ w'.cell? ⟨g, 1, none⟩ = some (.int .i64 n) ∧ w'.cell? ⟨g, 3, none⟩ = some (.int .i32 v) ∧ (convert 30 9 (.slice A n c)).run Try.prog w' = .ok (.string (strOfNums (enc v))) w' ∧ Below w.heap.size w w')
        (first | (refine ⟨k0, k1, k3, ?_, ?_⟩; exact HCV.out _ (below_drew HBW.out); exact below_drew HBW.out) | (refine ⟨cell_later hb3 k0, cell_later hb3 k1, cell_later hb3 k3, ?_, ?_⟩; exact HCV.out _ (on (below_drew HBW.out) hb3); exact on (below_drew HBW.out) hb3))
        (first | (go_at_call 11; refine (setC v _ hv).mono ?_; rintro e w3 ⟨rfl, hb3⟩))
      all_goals
        go_wp2_with fail
        go_meet
        exact ⟨rfl, on (below_drew HBW.out) hb3⟩
    · go_quiet (fail)
      go_wp2_with fail
      go_meet
      exact ⟨rfl, pw_below_drewN HBW.out _⟩
  case rest =>
    obtain ⟨rfl, HBc⟩ := hcut
    clear k0 k1 k3 hcase
    go_wp2_with fail
    refine (setC u _ hs).mono ?_
    rintro e w5 ⟨rfl, hb5⟩
    have HB5 : Hid (Below w.heap.size w w5) := on HBc hb5
    clear hb5 HBc
    go_wp2_with fail
    refine (refScalarC u _).mono ?_
    rintro e w6 ⟨rfl, rfl⟩
    rw [decide_eq_true hs]
    go_wp2_with fail
    have kc : (w5.alloc (.cells #[.int .i64 0, .string (strOfNums (enc u)), .int .i64 0, .int .i64 0, .int .u32 0, .int .i32 0] 27)).cell? ⟨w5.heap.size, 1, none⟩ = some (.string (strOfNums (enc u))) := blk_cell (heap_alloc_new _ _) 1
    have hbW := below_alloc HB5.out (.cells #[.int .i64 0, .string (strOfNums (enc u)), .int .i64 0, .int .i64 0, .int .u32 0, .int .i32 0] 27)
    have HCl : Hid (w.heap.size ≤ w5.heap.size) := HB5.out.size
    generalize hg2 : w5.heap.size = h at *
    generalize (w5.alloc (.cells #[.int .i64 0, .string (strOfNums (enc u)), .int .i64 0, .int .i64 0, .int .u32 0, .int .i32 0] 27)) = V at *
    clear hg2 HB5
    have HBV : Hid (Below w.heap.size w V) := hbW
    clear hbW
    have hsz : (strOfNums (enc u)).size = (enc u).length := by unfold strOfNums ByteArray.size; simp
    have hbd := enc_len_bd u
    have l1 : (1 : Int) ≤ ((strOfNums (enc u)).size : Int) := by omega
    have l2 : ((strOfNums (enc u)).size : Int) ≤ 4 := by omega
    have kb := fun W => print_bytes (P := Try.prog) 9 30 5 Try.underlying9 Try.underlying30 Try.underlying5 (strOfNums (enc u)) W
    have HSZ := Lib.hid hsz
    clear hsz hbd
    go_cut [4] (fun s wx => s = .bool true ∧ Hid (Below w.heap.size w wx))
    case first =>
      have Hlen : Hid ((bytesOf (strOfNums (enc u))).length + l.length ≤ 140737488355328) := by
        have h1 : (bytesOf (strOfNums (enc u))).length = (strOfNums (enc u)).size := bytesOf_length _
        show _ ≤ _
        omega
      have Hss : Hid ((strOfNums (enc u)).size ≤ 140737488355328) := by
        show _ ≤ _
        omega
      have HCV : Hid (∀ W', Below w.heap.size w W' → Kd.C (Kd.int .u8) W' A l.length l) := fun W' hW' => Kd.C_below HC.out hW'
      have HVD : Hid (Below w.heap.size w V.drew) := below_drew HBV.out
      have HBZ : Hid (Below V.drew.heap.size V.drew (Lib.bytesWorld V.drew 5 (strOfNums (enc u)))) := bytes_below (Below.refl _ _) (Nat.le_refl _) 5 _
      have HBY : Hid (Below w.heap.size w (Lib.bytesWorld V.drew 5 (strOfNums (enc u)))) := bytes_below HVD.out HVD.out.size 5 _
      have Hlt : Hid (h < V.drew.heap.size) := by
        rcases Nat.lt_or_ge h V.heap.size with g1 | g1
        · exact g1
        · exfalso
          simp [World.cell?, Array.getElem?_eq_none g1] at kc
      have KD : Hid (V.drew.cell? ⟨h, 1, none⟩ = some (.string (strOfNums (enc u)))) := kc
      have kcB : (Lib.bytesWorld V.drew 5 (strOfNums (enc u))).cell? ⟨h, 1, none⟩ = some (.string (strOfNums (enc u))) := (HBZ.out.cell (p := ⟨h, 1, none⟩) Hlt.out).trans KD.out
      have HGC : Hid (∀ A9 c9 w9, Kd.C (Kd.int .u8) w9 A9 (bytesOf (strOfNums (enc u)) ++ l).length (bytesOf (strOfNums (enc u)) ++ l) → (bytesOf (strOfNums (enc u)) ++ l).length ≤ c9 → Calls Try.prog 13 #[.slice A9 ((bytesOf (strOfNums (enc u))).length + l.length) c9] w9 fun e w' => e = .returned (.agg #[.int .i64 0, .int .i64 ((strOfNums (enc u)).size : Int), .int .i64 1, .int .i32 u, .int .i32 0, .int .i64 0, .int .i64 0, .int .u32 0, .int .i32 0]) ∧ Below w9.heap.size w9 w') := by
        intro A9 c9 w9 h1 h2
        have hd : dec (bytesOf (strOfNums (enc u)) ++ l) = (0, ((strOfNums (enc u)).size : Int), 1, u, 0, 0, 0, 0, 0) := by
          rw [HSZ.out, bytesOf_str _ (enc_bytes hs)]
          exact dec_enc hs l
        have := getC A9 c9 (bytesOf (strOfNums (enc u)) ++ l) _ _ _ _ _ _ _ _ _ w9 h1 h2 (by
          rw [bytesOf_str _ (enc_bytes hs)]
          intro x hx
          rcases List.mem_append.1 hx with hx | hx
          · exact enc_bytes hs x hx
          · exact Hb.out x hx) hd
        rw [List.length_append] at this
        exact this
      go_region_law (first | (go_simp; go_at_call 13; refine (HGC.out _ _ _ HK9.out HC9.out).mono ?_; rintro e w10 ⟨rfl, hb10⟩; have kc10 : w10.cell? ⟨h, 1, none⟩ = some (.string (strOfNums (enc u))) := (hb10.cell (p := ⟨h, 1, none⟩) (Nat.lt_of_lt_of_le Hlt.out HB8.out.size)).trans kc9; have HB10 : Hid (Below w.heap.size w w10) := on HB9.out hb10; clear hb10) | (refine append_step (w0 := V.drew) (base := V.drew.heap.size) rfl (.tmp 50) (.tmp 51) rfl (by simp [Act.eval]; try rfl) (by simp [Act.eval]; try rfl) (OwnB.conv _ _ Hss.out) (HCV.out _ HBY.out) HBZ.out (Nat.le_refl _) HBZ.out.size Hlen.out ?_; intro A9 c9 w9 hk9 hc9 hb9; have HK9 := Lib.hid hk9; have HC9 := Lib.hid hc9; have kc9 : w9.cell? ⟨h, 1, none⟩ = some (.string (strOfNums (enc u))) := (hb9.cell (p := ⟨h, 1, none⟩) Hlt.out).trans KD.out; have HB8 := Lib.hid hb9; have HB9 : Hid (Below w.heap.size w w9) := on HVD.out hb9; clear hk9 hc9 hb9))
      all_goals
        go_wp2_with fail
        go_meet
        exact ⟨rfl, HB10⟩
    case rest =>
      obtain ⟨rfl, HBe⟩ := hcut
      go_wp2_with fail
      go_ret
      exact ⟨rfl, HBe.out⟩
set_option maxHeartbeats 4000000 in
set_option maxRecDepth 100000 in
theorem back_not (u r1 r3 v : Int) (A : Option Addr) (c : Nat) (l : List Int) (w : World) (hC : Kd.C (Kd.int .u8) w A l.length l) (hc : l.length ≤ c) (hb : ∀ x ∈ l, Byte x) (n : Nat)
    (hd : dec l = (r1, (n : Int), r3, v, 0, 0, 0, 0, 0)) (hcase : (r1 = 0 ∧ Scal v ∧ 1 ≤ n ∧ n ≤ l.length ∧ l.take n = enc v) ∨ (r1 == 0) = false) (hs : ¬ Scal u) :
    Calls Try.prog 6 #[.int .i32 u, .slice A l.length c] w fun e w' => e = .returned (.bool true) ∧ Below w.heap.size w w' := by
  have HC := Lib.hid hC
  have Hc := Lib.hid hc
  have HD := Lib.hid hd
  have Hb := Lib.hid hb
  clear hC hc hd hb
  go_enter Try.func6, Try.ntmps6
  go_wp2_with fail
  refine (works_calls _).mono ?_
  rintro e w1 ⟨rfl, hb1⟩
  have HB1 : Hid (Below w.heap.size w w1) := hb1
  clear hb1
  go_wp2_with fail
  refine (getC A c l _ _ _ _ _ _ _ _ _ _ (Kd.C_below HC.out HB1.out) Hc.out Hb.out HD.out).mono ?_
  rintro e w2 ⟨rfl, hb2⟩
  have HB2 : Hid (Below w.heap.size w w2) := on HB1.out hb2
  clear hb2
  go_wp2_with fail
  have k0 : (w2.alloc (.cells #[.int .i64 r1, .int .i64 (n : Int), .int .i64 r3, .int .i32 v, .int .i32 0, .int .i64 0, .int .i64 0, .int .u32 0, .int .i32 0] 32)).cell? ⟨w2.heap.size, 0, none⟩ = some (.int .i64 r1) := blk_cell (heap_alloc_new _ _) 0
  have k1 : (w2.alloc (.cells #[.int .i64 r1, .int .i64 (n : Int), .int .i64 r3, .int .i32 v, .int .i32 0, .int .i64 0, .int .i64 0, .int .u32 0, .int .i32 0] 32)).cell? ⟨w2.heap.size, 1, none⟩ = some (.int .i64 n) := blk_cell (heap_alloc_new _ _) 1
  have k3 : (w2.alloc (.cells #[.int .i64 r1, .int .i64 (n : Int), .int .i64 r3, .int .i32 v, .int .i32 0, .int .i64 0, .int .i64 0, .int .u32 0, .int .i32 0] 32)).cell? ⟨w2.heap.size, 3, none⟩ = some (.int .i32 v) := blk_cell (heap_alloc_new _ _) 3
  have hbW := below_alloc HB2.out (.cells #[.int .i64 r1, .int .i64 (n : Int), .int .i64 r3, .int .i32 v, .int .i32 0, .int .i64 0, .int .i64 0, .int .u32 0, .int .i32 0] 32)
  generalize hg : w2.heap.size = g at *
  generalize (w2.alloc (.cells #[.int .i64 r1, .int .i64 (n : Int), .int .i64 r3, .int .i32 v, .int .i32 0, .int .i64 0, .int .i64 0, .int .u32 0, .int .i32 0] 32)) = W at *
  clear hg HB2
  have HBW : Hid (Below w.heap.size w W) := hbW
  clear hbW
  go_cut [28] (fun s wx => s = .bool false ∧ Hid (Below w.heap.size w wx))
  case first =>
    rcases hcase with ⟨rfl, hv, hn1, hn, htk⟩ | hne
    · have hnc : n ≤ c := Nat.le_trans hn Hc.out
      have hcv : ∀ W', Below w.heap.size w W' → (convert 30 9 (.slice A n c)).run Try.prog W' = .ok (.string (strOfNums (enc v))) W' := by
        intro W' hW'
        have h1 := Kd.C_take (m := n) (Kd.C_below HC.out hW') hn
        rw [List.length_take, Nat.min_eq_left hn, htk] at h1
        exact Kd.C_string (P := Try.prog) Try.underlying30 Try.underlying5 Try.underlying9 h1
      have HCV := Lib.hid hcv
      clear hcv htk
      obtain ⟨i5, hi5, hz5⟩ := Option.map_eq_some_iff.1 info5
      simp only [Prod.mk.injEq] at hz5
      have hsl : ∀ W : World, (Instr.slice 30 (.slice A l.length c) none (some (.int .i64 (n : Int))) none).run Try.prog W = .ok (.slice A n c) W := by
        have h := (print_take_int (P := Try.prog) (k := .u8) 30 5 Try.underlying30 hi5 hz5.2.1 A c l (n : Int) (by omega) (by omega) Hc.out).1
        rw [Int.toNat_natCast, List.length_take, Nat.min_eq_left hn] at h
        exact h
      clear hi5 hz5
      have hmin : Builtin.min2 (.int .i64 (n : Int)) (.int .i64 (l.length : Int)) = pure (.int .i64 (n : Int)) := by
        rw [min2_int, if_neg (by omega)]
      have i0 : (0 : Int) ≤ (n : Int) := by omega
      have i1 : (n : Int) ≤ (l.length : Int) := by omega
      have i2 : (n : Int) ≤ (c : Int) := by omega
      have i3 : ¬ ((l.length : Int) < (n : Int)) := by omega
      go_region_held3 (fun w' => w'.cell? ⟨g, 0, none⟩ = some (.int .i64 0) ∧ w'.cell? ⟨g, 1, none⟩ = some (.int .i64 n) ∧ w'.cell? ⟨g, 3, none⟩ = some (.int .i32 v) ∧ (convert 30 9 (.slice A n c)).run Try.prog w' = .ok (.string (strOfNums (enc v))) w' ∧ Below w.heap.size w w')
        (first | (refine ⟨k0, k1, k3, ?_, ?_⟩; exact HCV.out _ (below_drew HBW.out); exact below_drew HBW.out) | (refine ⟨cell_later hb3 k0, cell_later hb3 k1, cell_later hb3 k3, ?_, ?_⟩; exact HCV.out _ (on (below_drew HBW.out) hb3); exact on (below_drew HBW.out) hb3))
        (first | (go_at_call 11; refine (setC v _ hv).mono ?_; rintro e w3 ⟨rfl, hb3⟩))
      all_goals
        go_wp2_with fail
        go_meet
        exact ⟨rfl, on (below_drew HBW.out) hb3⟩
    · go_quiet (fail)
      go_wp2_with fail
      go_meet
      exact ⟨rfl, pw_below_drewN HBW.out _⟩
  case rest =>
    obtain ⟨rfl, HBc⟩ := hcut
    clear k0 k1 k3 hcase
    have HN : Hid (¬ Scal u) := hs
    go_wp2_with fail
    refine (setC_not u _ HN.out).mono ?_
    rintro e w5 ⟨rfl, hb5⟩
    have HB5 : Hid (Below w.heap.size w w5) := on HBc hb5
    clear hb5 HBc
    go_wp2_with fail
    refine (refScalarC u _).mono ?_
    rintro e w6 ⟨rfl, rfl⟩
    rw [decide_eq_false HN.out]
    go_wp2_with fail
    go_ret
    exact ⟨rfl, below_alloc HB5.out _⟩
theorem back_walk (w : World) (u : Int) (_ : (Lit.int .i32 u).wf = true) (a : Option Addr) (len cap : Nat) (zs : List Int) (h : (a = none ∧ len = 0 ∧ cap = 0 ∧ zs = []) ∨ ∃ x, a = some x ∧ len ≤ cap ∧ cap ≤ maxLen ∧ zs.length = cap ∧ (∀ i, i < zs.length → w.cell? (x.add i) = some (.int .u8 (zs.getD i 0))) ∧ ∀ n ∈ zs, (Lit.int .u8 n).wf = true)
    (hl : len * 1 ≤ 140737488351232) : Calls Try.prog 6 #[.int .i32 u, .slice a len cap] w fun e w' => e = .returned (.bool true) ∧ Below w.heap.size w w' := by
  obtain ⟨l, rfl, hC, hc, hb⟩ := open_row h
  have key : ∃ (r1 r3 v : Int) (n : Nat), dec l = (r1, (n : Int), r3, v, 0, 0, 0, 0, 0) ∧ ((r1 = 0 ∧ Scal v ∧ 1 ≤ n ∧ n ≤ l.length ∧ l.take n = enc v) ∨ (r1 == 0) = false) := by
    rcases dec_cases l hb with ⟨hd, _⟩ | ⟨n, _, _, _, hd⟩ | ⟨v, t, hv, hlt, hd⟩
    · exact ⟨1, 0, 0, 0, hd, .inr rfl⟩
    · exact ⟨10, 0, 0, n, hd, .inr rfl⟩
    · refine ⟨0, 1, v, (enc v).length, hd, .inl ⟨rfl, hv, (enc_len_bd v).1, ?_, ?_⟩⟩
      · rw [hlt, List.length_append]
        omega
      · rw [hlt, List.take_left]
  obtain ⟨r1, r3, v, n, hd, hcase⟩ := key
  by_cases hs : Scal u
  · exact back_scal u r1 r3 v a cap l w hC hc hb (by omega) n hd hcase hs
  · exact back_not u r1 r3 v a cap l w hC hc hb n hd hcase hs
end Go.Proofs.Ytaogccmbdmheeaa.U8
