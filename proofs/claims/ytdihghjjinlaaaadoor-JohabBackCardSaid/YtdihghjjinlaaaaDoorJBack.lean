/- JohabBack, walked: a scalar that is written is read again; what is read is written as it was. -/
import Derived.Test.YtdihghjjinlaaaaDoorJBackP
import Derived.Lib.Bytes
import Derived.Lib.Hide
import Derived.Outline
import Derived.WalkSpells
import Derived.Deep.DeepCutAuto
import Derived.Deep.RegionHeld3
import Derived.Deep.RegionLaw
import Derived.Deep.DrawnRows
import Derived.Deep.QuietTactic
import Derived.BigQuiet
namespace Go.Proofs.YtdihghjjinlaaaaDoor.J
open Go.RowKit Go.Proofs.YtdihghjjinlaaaaDoorW.PrintWords Go.Proofs.YtdihghjjinlaaaaDoorW.PrintLast Go.Proofs.YtdihghjjinlaaaaDoorW.PrintMore
set_option linter.unusedVariables false
attribute [local go_sem ↓] Go.wp_at_zero Go.wp_at_succ
theorem cell_on {w w1 : World} {p : Addr} {v : Value} (h : Below w.heap.size w w1) (hc : w.cell? p = some v) : w1.cell? p = some v := pw_cell_below h hc
theorem take_at {A : Option Addr} {c : Nat} {l : List Int} (j : Nat) (hj : j ≤ l.length) (hc : l.length ≤ c) : ∀ W : World, (Instr.slice 35 (.slice A l.length c) none (some (.int .i64 (j : Int))) none).run Tryd.prog W = .ok (.slice A j c) W := by
  obtain ⟨i5, hi5, hz5⟩ := Option.map_eq_some_iff.1 info5
  simp only [Prod.mk.injEq] at hz5
  have h := (print_take_int (P := Tryd.prog) (k := .u8) 35 5 Tryd.underlying35 hi5 hz5.2.1 A c l (j : Int) (by omega) (by omega) hc).1
  rw [Int.toNat_natCast, List.length_take, Nat.min_eq_left hj] at h
  exact h
set_option maxHeartbeats 4000000 in
set_option maxRecDepth 100000 in
theorem back_at (u : Int) (A : Option Addr) (c : Nat) (l : List Int) (w : World) (ht : Tab w) (hC : Kd.C (Kd.int .u8) w A l.length l) (hc : l.length ≤ c) (hb : ∀ x ∈ l, 0 ≤ x ∧ x < 256) (hlen : l.length ≤ 140737488351232) (er : Int) (b : List Int) (hw : Written u er b) (en nn kk v : Int) (hag : Again l en nn kk v) :
    Calls Tryd.prog 6 #[.int .i32 u, .slice A l.length c] w fun e w' => e = .returned (.bool true) ∧ Below w.heap.size w w' := by
  have HT := Lib.hid ht
  have HC := Lib.hid hC
  have Hc := Lib.hid hc
  obtain ⟨hset, hcase⟩ := hw
  obtain ⟨S, hS⟩ : ∃ S, S = strOfNums b := ⟨_, rfl⟩
  have hsz : S.size = b.length := by rw [hS, str_lenB]
  have HSET : Hid (∀ W, Tab W → Calls Tryd.prog 13 #[.int .i32 u] W fun e w' => e = .returned (.agg #[.int .i64 er, .string S, .int .i64 0, .int .i64 0, .int .u32 0, .int .i32 0]) ∧ Below W.heap.size W w') := Lib.hid (by rw [hS]; exact hset)
  have HSB : Hid (S = strOfNums b) := Lib.hid hS
  have HSZ := Lib.hid hsz
  have HG := Lib.hid hag.1
  have HAG := Lib.hid hag.2
  have HCASE := Lib.hid hcase
  clear ht hC hc hset hS hsz hag hcase
  go_enter Tryd.func6, Tryd.ntmps6
  go_wp2_with fail
  refine (worksC _ HT.out).mono ?_
  rintro e w1 ⟨rfl, hb1⟩
  have HB1 : Hid (Below w.heap.size w w1) := Lib.hid hb1
  clear hb1
  go_wp2_with fail
  refine (HSET.out _ (HT.out.below HB1.out)).mono ?_
  rintro e w2 ⟨rfl, hb2⟩
  have HB2 : Hid (Below w.heap.size w w2) := Lib.hid (on HB1.out hb2)
  clear hb2
  go_upto_region 4 with fail
  have k0 : (w2.alloc (.cells #[.int .i64 er, .string S, .int .i64 0, .int .i64 0, .int .u32 0, .int .i32 0] 32)).cell? ⟨w2.heap.size, 0, none⟩ = some (.int .i64 er) := blk_cell (heap_alloc_new _ _) 0
  have k1 : (w2.alloc (.cells #[.int .i64 er, .string S, .int .i64 0, .int .i64 0, .int .u32 0, .int .i32 0] 32)).cell? ⟨w2.heap.size, 1, none⟩ = some (.string S) := blk_cell (heap_alloc_new _ _) 1
  have HBV : Hid (Below w.heap.size w (w2.alloc (.cells #[.int .i64 er, .string S, .int .i64 0, .int .i64 0, .int .u32 0, .int .i32 0] 32))) := Lib.hid (below_alloc HB2.out _)
  have HLT : Hid (w2.heap.size < (w2.alloc (.cells #[.int .i64 er, .string S, .int .i64 0, .int .i64 0, .int .u32 0, .int .i32 0] 32)).heap.size) := Lib.hid (by simp)
  generalize w2.alloc (.cells #[.int .i64 er, .string S, .int .i64 0, .int .i64 0, .int .u32 0, .int .i32 0] 32) = V at *
  generalize w2.heap.size = h at *
  go_cut [27] (fun s wx => s = .bool false ∧ Hid (Below w.heap.size w wx))
  case first =>
    rcases HCASE.out with ⟨he, h1, h2, hbb, hgot⟩ | hne
    · subst he
      have hbo : bytesOf S = b := by rw [HSB.out]; exact bytesOf_strB b hbb
      have HBO := Lib.hid hbo
      have HGOT := Lib.hid (hgot l)
      have Hlen : Hid ((bytesOf S).length + l.length ≤ 140737488355328) := Lib.hid (by rw [hbo]; omega)
      have Hss : Hid (S.size ≤ 140737488355328) := Lib.hid (by have := HSZ.out; omega)
      have hs2 : S.size ≤ 2 := by have := HSZ.out; omega
      clear h1 h2 hbb hgot hbo
      have HCV : Hid (∀ W', Below w.heap.size w W' → Kd.C (Kd.int .u8) W' A l.length l) := Lib.hid (fun W' hW' => Kd.C_below HC.out hW')
      have kb := fun W => print_bytes (P := Tryd.prog) 9 35 5 Tryd.underlying9 Tryd.underlying35 Tryd.underlying5 S W
      have HVD : Hid (Below w.heap.size w V.drew) := Lib.hid (below_drew HBV.out)
      have HBZ : Hid (Below V.drew.heap.size V.drew (Lib.bytesWorld V.drew 5 S)) := Lib.hid (bytes_below (Below.refl _ _) (Nat.le_refl _) 5 _)
      have HBY : Hid (Below w.heap.size w (Lib.bytesWorld V.drew 5 S)) := Lib.hid (bytes_below HVD.out HVD.out.size 5 _)
      have KD : Hid (V.drew.cell? ⟨h, 1, none⟩ = some (.string S)) := Lib.hid k1
      have kcB : (Lib.bytesWorld V.drew 5 S).cell? ⟨h, 1, none⟩ = some (.string S) := (HBZ.out.cell (p := ⟨h, 1, none⟩) HLT.out).trans KD.out
      have HGC : Hid (∀ A9 c9 w9, Tab w9 → Kd.C (Kd.int .u8) w9 A9 (bytesOf S ++ l).length (bytesOf S ++ l) → Calls Tryd.prog 15 #[.slice A9 ((bytesOf S).length + l.length) c9] w9 fun e w' => e = .returned (.agg #[.int .i64 0, .int .i64 (S.size : Int), .int .i64 1, .int .i32 u, .int .i32 0, .int .i64 0, .int .i64 0, .int .u32 0, .int .i32 0]) ∧ Below w9.heap.size w9 w') := Lib.hid (by
        intro A9 c9 w9 ht9 hk
        have hg : GotIs (bytesOf S ++ l) 0 (S.size : Int) 1 u := by rw [HBO.out, HSZ.out]; exact HGOT.out
        have := getC A9 c9 (bytesOf S ++ l) 0 (S.size : Int) 1 u w9 ht9 hk hg
        rw [List.length_append] at this
        exact this)
      go_region_law (first | (go_simp; go_at_call 15; refine (HGC.out _ _ _ (HT.out.below HB9.out) HK9.out).mono ?_; rintro e w10 ⟨rfl, hb10⟩; have kc10 : w10.cell? ⟨h, 1, none⟩ = some (.string S) := cell_on hb10 kc9; have HB10 : Hid (Below w.heap.size w w10) := Lib.hid (on HB9.out hb10); clear hb10) | (refine append_step (w0 := V.drew) (base := V.drew.heap.size) (by first | rfl | kernel_rfl) (.tmp 17) (.tmp 18) rfl (by simp [Act.eval]; try rfl) (by simp [Act.eval]; try rfl) (OwnB.conv _ _ Hss.out) (HCV.out _ HBY.out) HBZ.out (Nat.le_refl _) HBZ.out.size Hlen.out ?_; intro A9 c9 w9 hk9 hc9 hb9; have HK9 := Lib.hid hk9; have kc9 : w9.cell? ⟨h, 1, none⟩ = some (.string S) := (hb9.cell (p := ⟨h, 1, none⟩) HLT.out).trans KD.out; have HB9 : Hid (Below w.heap.size w w9) := Lib.hid (on HVD.out hb9); clear hk9 hc9 hb9))
      all_goals
        go_wp2_with fail
        go_meet
        exact ⟨rfl, HB10⟩
    · have hne2 : (er != 0) = true := by simp only [bne, hne, Bool.not_false]
      go_quiet (fail)
      go_wp2_with fail
      go_meet
      exact ⟨rfl, Lib.hid (pw_below_drewN HBV.out _)⟩
  case rest =>
    obtain ⟨rfl, HBc⟩ := hcut
    clear k0 k1
    go_wp2_with fail
    refine (getC A c l en nn kk v _ (HT.out.below HBc.out) (Kd.C_below HC.out HBc.out) HG.out).mono ?_
    rintro e w5 ⟨rfl, hb5⟩
    have HB5 : Hid (Below w.heap.size w w5) := Lib.hid (on HBc.out hb5)
    clear hb5 HBc HG HB1 HB2 HBV HLT
    go_upto_region 7 with fail
    have GK : Hid ((w5.alloc (.cells #[.int .i64 en, .int .i64 nn, .int .i64 kk, .int .i32 v, .int .i32 0, .int .i64 0, .int .i64 0, .int .u32 0, .int .i32 0] 37)).heap[w5.heap.size]? = some (.cells #[.int .i64 en, .int .i64 nn, .int .i64 kk, .int .i32 v, .int .i32 0, .int .i64 0, .int .i64 0, .int .u32 0, .int .i32 0] 37 (0, 0))) := Lib.hid (heap_alloc_new _ _)
    have HB6 : Hid (Below w.heap.size w (w5.alloc (.cells #[.int .i64 en, .int .i64 nn, .int .i64 kk, .int .i32 v, .int .i32 0, .int .i64 0, .int .i64 0, .int .u32 0, .int .i32 0] 37))) := Lib.hid (below_alloc HB5.out _)
    generalize w5.alloc (.cells #[.int .i64 en, .int .i64 nn, .int .i64 kk, .int .i32 v, .int .i32 0, .int .i64 0, .int .i64 0, .int .u32 0, .int .i32 0] 37) = W at *
    generalize w5.heap.size = g at *
    clear HB5
    have g0 := blk_cell GK.out 0
    have g1 := blk_cell GK.out 1
    have g3 := blk_cell GK.out 3
    have hgz : g < W.heap.size := blk_lt GK.out
    rcases HAG.out with ⟨he, hn⟩ | ⟨he, hn1, hn2, hn3⟩ | ⟨he, j, hn, hj, hset2⟩
    · subst he hn
      go_wp2_with fail
      go_ret
      exact ⟨rfl, HB6.out⟩
    · subst he
      have i1 : decide (1 ≤ nn) = true := decide_eq_true hn1
      have i2 : decide (nn ≤ 2) = true := decide_eq_true hn2
      have i3 : decide (nn ≤ (l.length : Int)) = true := decide_eq_true hn3
      go_wp2_with fail
      go_ret
      exact ⟨rfl, HB6.out⟩
    · subst he hn
      have HS2 : Hid (∀ W, Tab W → Calls Tryd.prog 13 #[.int .i32 v] W fun e w' => e = .returned (.agg #[.int .i64 0, .string (strOfNums (l.take j)), .int .i64 0, .int .i64 0, .int .u32 0, .int .i32 0]) ∧ Below W.heap.size W w') := Lib.hid hset2
      have hcv : ∀ W', Below w.heap.size w W' → (convert 35 9 (.slice A j c)).run Tryd.prog W' = .ok (.string (strOfNums (l.take j))) W' := by
        intro W' hW'
        have h1 := Kd.C_take (m := j) (Kd.C_below HC.out hW') hj
        rw [List.length_take, Nat.min_eq_left hj] at h1
        exact Kd.C_string (P := Tryd.prog) Tryd.underlying35 Tryd.underlying5 Tryd.underlying9 h1
      have HCV := Lib.hid hcv
      clear hcv hset2 HAG
      generalize strOfNums (l.take j) = T at *
      have hsl := take_at (A := A) j hj Hc.out
      have hjc : j ≤ c := Nat.le_trans hj Hc.out
      have i0 : (0 : Int) ≤ (j : Int) := by omega
      have i1 : (j : Int) ≤ (l.length : Int) := by omega
      have i2 : (j : Int) ≤ (c : Int) := by omega
      have HBd : Hid (Below w.heap.size w W.drew) := Lib.hid (below_drew HB6.out)
      have GKd : Hid (W.drew.heap[g]? = some (.cells #[.int .i64 0, .int .i64 (j : Int), .int .i64 kk, .int .i32 v, .int .i32 0, .int .i64 0, .int .i64 0, .int .u32 0, .int .i32 0] 37 (0, 0))) := Lib.hid GK.out
      go_upto_region 9 with fail
      go_region_held3 (fun w' => w'.cell? ⟨g, 1, none⟩ = some (.int .i64 j) ∧ w'.cell? ⟨g, 3, none⟩ = some (.int .i32 v) ∧ (convert 35 9 (.slice A j c)).run Tryd.prog w' = .ok (.string T) w') (exact ⟨blk_cell GKd.out 1, blk_cell GKd.out 3, HCV.out _ HBd.out⟩) (first | (go_at_call 13; (with_reducible refine (HS2.out _ (HT.out.below HBd.out)).mono ?_); rintro e wa ⟨rfl, hb⟩; replace GKd := Lib.hid (blk_below GKd.out hb); replace HBd := Lib.hid (on HBd.out hb); clear hb) | fail)
      all_goals
        go_wp2_with fail
        go_ret
        exact ⟨rfl, HBd.out⟩
theorem back_walk (w : World) (ht : Tab w) (u : Int) (hu : (Lit.int .i32 u).wf = true) (a : Option Addr) (len cap : Nat) (zs : List Int) (h : (a = none ∧ len = 0 ∧ cap = 0 ∧ zs = []) ∨ ∃ x, a = some x ∧ len ≤ cap ∧ cap ≤ maxLen ∧ zs.length = cap ∧ (∀ i, i < zs.length → w.cell? (x.add i) = some (.int .u8 (zs.getD i 0))) ∧ ∀ n ∈ zs, (Lit.int .u8 n).wf = true)
    (hl : len * 1 ≤ 140737488351232) : Calls Tryd.prog 6 #[.int .i32 u, .slice a len cap] w fun e w' => e = .returned (.bool true) ∧ Below w.heap.size w w' := by
  obtain ⟨l, rfl, hC, hc, hb⟩ := open_row h
  obtain ⟨e, b, hw⟩ := set_ex u hu
  obtain ⟨en, n, k, v, hag⟩ := again_ex l hb
  exact back_at u a cap l w ht hC hc hb (by omega) e b hw en n k v hag
end Go.Proofs.YtdihghjjinlaaaaDoor.J
