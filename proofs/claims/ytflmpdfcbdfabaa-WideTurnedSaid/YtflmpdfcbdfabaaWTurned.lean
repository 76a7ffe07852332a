/- WideTurned, walked: the other order is the bytes turned about. No condition. -/
import Derived.Test.YtflmpdfcbdfabaaWTurn
import Derived.Test.YtflmpdfcbdfabaaWMarks
import Derived.Test.YtflmpdfcbdfabaaWSizes
namespace Go.Proofs.Ytflmpdfcbdfabaa.Wd
open Go.RowKit Go.Proofs.YtflmpdfcbdfabaaW.PrintWords Go.Proofs.YtflmpdfcbdfabaaW.PrintLast Go.Proofs.YtflmpdfcbdfabaaW.PrintMore
set_option linter.unusedVariables false
theorem turned_got {kind n : Int} {m : Nat} (q : Nat) {pairs : Bool} {l : List Int} (hm : n = (m : Int)) (hn : m = 2 ∨ m = 4) (hw : Whole m q l.length) (h : shp kind 0 = some (n, pairs, false, false)) (h' : shp (kind + 1) 0 = some (n, pairs, false, true)) :
    ∃ e k s u, GW kind 0 0 0 0 l e k s u 0 ∧ GW (kind + 1) 0 0 0 0 (turn m q l) e k s u 0 := by
  subst hm
  obtain ⟨e, k, s, u, hg⟩ := gp_ex (m : Int) pairs false l (shp_ok h).2
  have hg' := turn_gp hn hw hg
  by_cases he : e = 1
  · subst he
    exact ⟨1, k, s, u, .plainMore _ pairs false false k s u h (fit00 _) (by simp) hg, .plainMore _ pairs false true k s u h' (fit00 _) (by simp) hg'⟩
  · exact ⟨e, k, s, u, .plain _ pairs false false e k s u h (fit00 _) (by simp) hg he, .plain _ pairs false true e k s u h' (fit00 _) (by simp) hg' he⟩
theorem rd_getD (l : List Int) (p : Nat) : rd l (p : Int) = l.getD p 0 := by unfold rd; rw [Int.toNat_natCast]
set_option maxHeartbeats 4000000 in
set_option maxRecDepth 100000 in
theorem turned_3_big (kind : Int) (A : Option Addr) (c : Nat) (l : List Int) (w : World) (hC : Kd.C (Kd.int .u8) w A l.length l) (hc : l.length ≤ c) (hb : ∀ x ∈ l, Byte x) (hlen : 1000 < l.length) (hq : (IntKind.u64.wrap kind).tmod 3 = 0) :
    Calls Try.prog 6 #[.int .i64 kind, .slice A l.length c] w fun e w' => e = .returned (.bool true) ∧ Below w.heap.size w w' := by
  have HC := Lib.hid hC
  have Hc := Lib.hid hc
  have Hb := Lib.hid hb
  clear hC hc hb
  go_enter Try.func6, Try.ntmps6
  go_wp2_with fail
  refine (worksC _).mono ?_
  rintro e w1 ⟨rfl, hb1⟩
  have HB1 : Hid (Below w.heap.size w w1) := hb1
  clear hb1
  go_wp2_with fail
  go_ret
  exact ⟨rfl, below_alloc HB1.out _⟩
set_option maxHeartbeats 4000000 in
set_option maxRecDepth 100000 in
theorem turned_3 (kind : Int) (A : Option Addr) (c : Nat) (l : List Int) (w : World) (hC : Kd.C (Kd.int .u8) w A l.length l) (hc : l.length ≤ c) (hb : ∀ x ∈ l, Byte x) (hlen : l.length ≤ 1000) (hq : (IntKind.u64.wrap kind).tmod 3 = 0) :
    Calls Try.prog 6 #[.int .i64 kind, .slice A l.length c] w fun e w' => e = .returned (.bool true) ∧ Below w.heap.size w w' := by
  have HC := Lib.hid hC
  have Hc := Lib.hid hc
  have Hb := Lib.hid hb
  clear hC hc hb
  go_enter Try.func6, Try.ntmps6
  go_wp2_with fail
  refine (worksC _).mono ?_
  rintro e w1 ⟨rfl, hb1⟩
  have HB1 : Hid (Below w.heap.size w w1) := hb1
  clear hb1
  go_upto_region 10 with fail
  have HB2 : Hid (Below w.heap.size w (w1.alloc (.cells #[.int .i64 3, .int .i64 6, .int .i64 9] 3))) := Lib.hid (below_alloc HB1.out _)
  generalize (some ⟨w1.heap.size, 0, none⟩ : Option Addr) = A1 at *
  generalize w1.alloc (.cells #[.int .i64 3, .int .i64 6, .int .i64 9] 3) = w2 at *
  clear hq
  go_upto_region 11 with (at_builtin; refine print_append_row (w0 := w2) w2.heap.size rfl (.tmp 25) (.tmp 26) 30 5 .u8 1 rfl Try.underlying30 info5 (by omega) (.slice (some ⟨w2.heap.size, 0, none⟩) 0 0) [] l A l.length c rfl rfl (own_lit w2 w2.heap.size 5 .u8 [] (Nat.le_refl _) (by simp)) (Kd.reads_of_C (enc := Value.int .u8) (d := (0 : Int)) (h1 := fun _ => rfl) (Kd.C_below HC.out (below_alloc HB2.out _))) (below_alloc (Below.refl _ _) _) (by simp) (by simp; omega) ?_; intro v3 w3 hown3 hb3 hg3 hat3; clear hg3 hat3; have HO3 : Hid (w3.ownsRow w2.heap.size 5 1 v3 l.length (nums .u8 l)) := hown3; have HB3 := Lib.hid hb3; clear hown3 hb3)
  obtain ⟨A3, c3, rfl, _, hc3⟩ := own_row HO3.out
  have Hc3 := Lib.hid hc3
  clear hc3
  have Hz2 : Hid (w.heap.size ≤ w2.heap.size) := Lib.hid HB2.out.size
  have HB4 : Hid (Below w.heap.size w w3) := Lib.hid (on HB2.out HB3.out)
  generalize w2.heap.size = B2 at *
  clear HB1 HB2 HB3
  go_wp2_with fail
  go_loopw [8] (fun i wr => ∃ q : Nat, q % 2 = 0 ∧ q ≤ l.length ∧ i = .int .i64 (q : Int) ∧ wr.ownsRow B2 5 1 (.slice A3 l.length c3) l.length (nums .u8 (turn 2 q l)) ∧ Below w.heap.size w wr) (fun i _ => l.length - (intOf i).toNat)
  case atStart => exact ⟨0, rfl, Nat.zero_le _, rfl, by rw [turn_zero]; exact HO3.out, HB4.out⟩
  case round =>
    obtain ⟨q, hq0, hq1, rfl, ho, hb⟩ := hrel
    have HO := Lib.hid ho
    have HB := Lib.hid hb
    clear ho hb HO3 HB4
    have Hq0 := Lib.hid hq0
    clear hq0
    by_cases hlt : q + 2 ≤ l.length
    · obtain ⟨wo, rfl⟩ : ∃ wo : World, wo = wr := ⟨_, rfl⟩
      obtain ⟨g, cap, he, hgb, hgl⟩ := HO.out.form (by omega)
      injection he with he1 _ he3
      subst he1
      clear he3 hgl
      have Hgb := Lib.hid hgb
      clear hgb
      go_wp2_with fail
      go_loopw [9] (fun k wk => ∃ j : Nat, j ≤ 2 ∧ k = .int .i64 (j : Int) ∧ wk.ownsRow B2 5 1 (.slice (some ⟨g, 0, none⟩) l.length c3) l.length (nums .u8 (turn 2 (q + j) l)) ∧ Below w.heap.size w wk) (fun k _ => 2 - (intOf k).toNat)
      case atStart => exact ⟨0, Nat.zero_le _, rfl, HO.out, HB.out⟩
      case round =>
        obtain ⟨j, hj, rfl, ho, hb⟩ := hrel
        have HOj := Lib.hid ho
        have HBj := Lib.hid hb
        clear ho hb
        by_cases hjn : j < 2
        · obtain ⟨ad, rfl, hcell⟩ := Kd.at_int (Kd.C_below HC.out HBj.out) ((q : Int) + 2 - 1 - (j : Int)) (by omega) (by omega)
          obtain ⟨hcs, hfs⟩ := own_at HOj.out ((q : Int) + (j : Int)) (by omega) (by omega)
          rw [show ((q : Int) + 2 - 1 - (j : Int)).toNat = q + 1 - j by omega] at hcell
          rw [show ((q : Int) + (j : Int)).toNat = q + j by omega] at hcs hfs
          have HRD : Hid (rd l ((q : Int) + 2 - 1 - (j : Int)) = l.getD (q + 2 - 1 - j) 0) := Lib.hid (by rw [← rd_getD]; congr 1; omega)
          generalize rd l ((q : Int) + 2 - 1 - (j : Int)) = x at *
          have hix0 : (0 : Int) ≤ (q : Int) + (j : Int) := by omega
          have hix1 : (q : Int) + (j : Int) < (l.length : Int) := by omega
          have hiy0 : (0 : Int) ≤ (q : Int) + 2 - 1 - (j : Int) := by omega
          have hiy1 : (q : Int) + 2 - 1 - (j : Int) < (l.length : Int) := by omega
          go_wp2_with fail
          go_roundw
          case rel =>
            refine ⟨j + 1, by omega, by go_num, ?_, HBj.out.setCell (Nat.le_trans Hz2.out Hgb.out) _⟩
            have hst := (own_store HOj.out ((q : Int) + (j : Int)) x).1
            rw [HRD.out, show ((q : Int) + (j : Int)).toNat = q + j by omega, turn_step (by omega) Hq0.out hjn hlt] at hst
            rw [HRD.out]
            first | exact hst | (rw [show ((q : Int) + (j : Int)).toNat = q + j by omega]; exact hst)
          case measure => simp [intOf]; omega
        · obtain rfl : j = 2 := by omega
          go_wp2_with fail
          go_roundw
          case rel => exact ⟨q + 2, by have := Hq0.out; omega, hlt, by go_num, HOj.out, HBj.out⟩
          case measure => simp [intOf]; omega
    · have HW : Hid (Whole 2 q l.length) := Lib.hid ⟨Hq0.out, hq1, by omega⟩
      obtain ⟨e1, k1, s1, u1, hp, hq⟩ := turned_got (kind := 3) (n := 2) (m := 2) q (pairs := true) (l := l) rfl (by decide) HW.out rfl rfl
      have HP := got_at Hb.out hp
      have HQ := got_at (turn_byte Hb.out) hq
      clear hp hq
      change Hid (∀ W A c, Kd.C (Kd.int .u8) W A (turn 2 q l).length (turn 2 q l) → (turn 2 q l).length ≤ c → Calls Try.prog 11 #[.int .i64 4, .agg #[.int .i64 0, .int .i64 0, .int .u32 0, .int .i32 0], .slice A (turn 2 q l).length c] W fun en w' => en = .returned (.agg #[.int .i64 e1, .int .i64 k1, .int .i64 s1, .int .i32 u1, .int .i32 0, .int .i64 0, .int .i64 0, .int .u32 0, .int .i32 0]) ∧ Below W.heap.size W w') at HQ
      rw [turn_len] at HQ
      go_wp2_with fail
      refine (HP.out _ _ _ (Kd.C_below HC.out HB.out) Hc.out).mono ?_
      rintro e w5 ⟨rfl, hb5⟩
      have HB5 : Hid (Below w.heap.size w w5) := Lib.hid (on HB.out hb5)
      have hCt : Kd.C (Kd.int .u8) w5 A3 l.length (turn 2 q l) := Kd.C_below (Kd.C_of_reads (d := (0 : Int)) (own_reads' HO.out)) hb5
      have HCt := Lib.hid hCt
      clear hCt hb5
      go_wp2_with fail
      refine (HQ.out _ _ _ HCt.out Hc3.out).mono ?_
      rintro e w6 ⟨rfl, hb6⟩
      have HB6 : Hid (Below w.heap.size w w6) := Lib.hid (on HB5.out hb6)
      clear hb6
      go_wp2_with fail
      go_ret
      exact ⟨rfl, HB6.out⟩
set_option maxHeartbeats 4000000 in
set_option maxRecDepth 100000 in
theorem turned_6_big (kind : Int) (A : Option Addr) (c : Nat) (l : List Int) (w : World) (hC : Kd.C (Kd.int .u8) w A l.length l) (hc : l.length ≤ c) (hb : ∀ x ∈ l, Byte x) (hlen : 1000 < l.length) (hq : (IntKind.u64.wrap kind).tmod 3 = 1) :
    Calls Try.prog 6 #[.int .i64 kind, .slice A l.length c] w fun e w' => e = .returned (.bool true) ∧ Below w.heap.size w w' := by
  have HC := Lib.hid hC
  have Hc := Lib.hid hc
  have Hb := Lib.hid hb
  clear hC hc hb
  go_enter Try.func6, Try.ntmps6
  go_wp2_with fail
  refine (worksC _).mono ?_
  rintro e w1 ⟨rfl, hb1⟩
  have HB1 : Hid (Below w.heap.size w w1) := hb1
  clear hb1
  go_wp2_with fail
  go_ret
  exact ⟨rfl, below_alloc HB1.out _⟩
set_option maxHeartbeats 4000000 in
set_option maxRecDepth 100000 in
theorem turned_6 (kind : Int) (A : Option Addr) (c : Nat) (l : List Int) (w : World) (hC : Kd.C (Kd.int .u8) w A l.length l) (hc : l.length ≤ c) (hb : ∀ x ∈ l, Byte x) (hlen : l.length ≤ 1000) (hq : (IntKind.u64.wrap kind).tmod 3 = 1) :
    Calls Try.prog 6 #[.int .i64 kind, .slice A l.length c] w fun e w' => e = .returned (.bool true) ∧ Below w.heap.size w w' := by
  have HC := Lib.hid hC
  have Hc := Lib.hid hc
  have Hb := Lib.hid hb
  clear hC hc hb
  go_enter Try.func6, Try.ntmps6
  go_wp2_with fail
  refine (worksC _).mono ?_
  rintro e w1 ⟨rfl, hb1⟩
  have HB1 : Hid (Below w.heap.size w w1) := hb1
  clear hb1
  go_upto_region 10 with fail
  have HB2 : Hid (Below w.heap.size w (w1.alloc (.cells #[.int .i64 3, .int .i64 6, .int .i64 9] 3))) := Lib.hid (below_alloc HB1.out _)
  generalize (some ⟨w1.heap.size, 0, none⟩ : Option Addr) = A1 at *
  generalize w1.alloc (.cells #[.int .i64 3, .int .i64 6, .int .i64 9] 3) = w2 at *
  clear hq
  go_upto_region 11 with (at_builtin; refine print_append_row (w0 := w2) w2.heap.size rfl (.tmp 25) (.tmp 26) 30 5 .u8 1 rfl Try.underlying30 info5 (by omega) (.slice (some ⟨w2.heap.size, 0, none⟩) 0 0) [] l A l.length c rfl rfl (own_lit w2 w2.heap.size 5 .u8 [] (Nat.le_refl _) (by simp)) (Kd.reads_of_C (enc := Value.int .u8) (d := (0 : Int)) (h1 := fun _ => rfl) (Kd.C_below HC.out (below_alloc HB2.out _))) (below_alloc (Below.refl _ _) _) (by simp) (by simp; omega) ?_; intro v3 w3 hown3 hb3 hg3 hat3; clear hg3 hat3; have HO3 : Hid (w3.ownsRow w2.heap.size 5 1 v3 l.length (nums .u8 l)) := hown3; have HB3 := Lib.hid hb3; clear hown3 hb3)
  obtain ⟨A3, c3, rfl, _, hc3⟩ := own_row HO3.out
  have Hc3 := Lib.hid hc3
  clear hc3
  have Hz2 : Hid (w.heap.size ≤ w2.heap.size) := Lib.hid HB2.out.size
  have HB4 : Hid (Below w.heap.size w w3) := Lib.hid (on HB2.out HB3.out)
  generalize w2.heap.size = B2 at *
  clear HB1 HB2 HB3
  go_wp2_with fail
  go_loopw [8] (fun i wr => ∃ q : Nat, q % 4 = 0 ∧ q ≤ l.length ∧ i = .int .i64 (q : Int) ∧ wr.ownsRow B2 5 1 (.slice A3 l.length c3) l.length (nums .u8 (turn 4 q l)) ∧ Below w.heap.size w wr) (fun i _ => l.length - (intOf i).toNat)
  case atStart => exact ⟨0, rfl, Nat.zero_le _, rfl, by rw [turn_zero]; exact HO3.out, HB4.out⟩
  case round =>
    obtain ⟨q, hq0, hq1, rfl, ho, hb⟩ := hrel
    have HO := Lib.hid ho
    have HB := Lib.hid hb
    clear ho hb HO3 HB4
    have Hq0 := Lib.hid hq0
    clear hq0
    by_cases hlt : q + 4 ≤ l.length
    · obtain ⟨wo, rfl⟩ : ∃ wo : World, wo = wr := ⟨_, rfl⟩
      obtain ⟨g, cap, he, hgb, hgl⟩ := HO.out.form (by omega)
      injection he with he1 _ he3
      subst he1
      clear he3 hgl
      have Hgb := Lib.hid hgb
      clear hgb
      go_wp2_with fail
      go_loopw [9] (fun k wk => ∃ j : Nat, j ≤ 4 ∧ k = .int .i64 (j : Int) ∧ wk.ownsRow B2 5 1 (.slice (some ⟨g, 0, none⟩) l.length c3) l.length (nums .u8 (turn 4 (q + j) l)) ∧ Below w.heap.size w wk) (fun k _ => 4 - (intOf k).toNat)
      case atStart => exact ⟨0, Nat.zero_le _, rfl, HO.out, HB.out⟩
      case round =>
        obtain ⟨j, hj, rfl, ho, hb⟩ := hrel
        have HOj := Lib.hid ho
        have HBj := Lib.hid hb
        clear ho hb
        by_cases hjn : j < 4
        · obtain ⟨ad, rfl, hcell⟩ := Kd.at_int (Kd.C_below HC.out HBj.out) ((q : Int) + 4 - 1 - (j : Int)) (by omega) (by omega)
          obtain ⟨hcs, hfs⟩ := own_at HOj.out ((q : Int) + (j : Int)) (by omega) (by omega)
          rw [show ((q : Int) + 4 - 1 - (j : Int)).toNat = q + 3 - j by omega] at hcell
          rw [show ((q : Int) + (j : Int)).toNat = q + j by omega] at hcs hfs
          have HRD : Hid (rd l ((q : Int) + 4 - 1 - (j : Int)) = l.getD (q + 4 - 1 - j) 0) := Lib.hid (by rw [← rd_getD]; congr 1; omega)
          generalize rd l ((q : Int) + 4 - 1 - (j : Int)) = x at *
          have hix0 : (0 : Int) ≤ (q : Int) + (j : Int) := by omega
          have hix1 : (q : Int) + (j : Int) < (l.length : Int) := by omega
          have hiy0 : (0 : Int) ≤ (q : Int) + 4 - 1 - (j : Int) := by omega
          have hiy1 : (q : Int) + 4 - 1 - (j : Int) < (l.length : Int) := by omega
          go_wp2_with fail
          go_roundw
          case rel =>
            refine ⟨j + 1, by omega, by go_num, ?_, HBj.out.setCell (Nat.le_trans Hz2.out Hgb.out) _⟩
            have hst := (own_store HOj.out ((q : Int) + (j : Int)) x).1
            rw [HRD.out, show ((q : Int) + (j : Int)).toNat = q + j by omega, turn_step (by omega) Hq0.out hjn hlt] at hst
            rw [HRD.out]
            first | exact hst | (rw [show ((q : Int) + (j : Int)).toNat = q + j by omega]; exact hst)
          case measure => simp [intOf]; omega
        · obtain rfl : j = 4 := by omega
          go_wp2_with fail
          go_roundw
          case rel => exact ⟨q + 4, by have := Hq0.out; omega, hlt, by go_num, HOj.out, HBj.out⟩
          case measure => simp [intOf]; omega
    · have HW : Hid (Whole 4 q l.length) := Lib.hid ⟨Hq0.out, hq1, by omega⟩
      obtain ⟨e1, k1, s1, u1, hp, hq⟩ := turned_got (kind := 6) (n := 4) (m := 4) q (pairs := false) (l := l) rfl (by decide) HW.out rfl rfl
      have HP := got_at Hb.out hp
      have HQ := got_at (turn_byte Hb.out) hq
      clear hp hq
      change Hid (∀ W A c, Kd.C (Kd.int .u8) W A (turn 4 q l).length (turn 4 q l) → (turn 4 q l).length ≤ c → Calls Try.prog 11 #[.int .i64 7, .agg #[.int .i64 0, .int .i64 0, .int .u32 0, .int .i32 0], .slice A (turn 4 q l).length c] W fun en w' => en = .returned (.agg #[.int .i64 e1, .int .i64 k1, .int .i64 s1, .int .i32 u1, .int .i32 0, .int .i64 0, .int .i64 0, .int .u32 0, .int .i32 0]) ∧ Below W.heap.size W w') at HQ
      rw [turn_len] at HQ
      go_wp2_with fail
      refine (HP.out _ _ _ (Kd.C_below HC.out HB.out) Hc.out).mono ?_
      rintro e w5 ⟨rfl, hb5⟩
      have HB5 : Hid (Below w.heap.size w w5) := Lib.hid (on HB.out hb5)
      have hCt : Kd.C (Kd.int .u8) w5 A3 l.length (turn 4 q l) := Kd.C_below (Kd.C_of_reads (d := (0 : Int)) (own_reads' HO.out)) hb5
      have HCt := Lib.hid hCt
      clear hCt hb5
      go_wp2_with fail
      refine (HQ.out _ _ _ HCt.out Hc3.out).mono ?_
      rintro e w6 ⟨rfl, hb6⟩
      have HB6 : Hid (Below w.heap.size w w6) := Lib.hid (on HB5.out hb6)
      clear hb6
      go_wp2_with fail
      go_ret
      exact ⟨rfl, HB6.out⟩
set_option maxHeartbeats 4000000 in
set_option maxRecDepth 100000 in
theorem turned_9_big (kind : Int) (A : Option Addr) (c : Nat) (l : List Int) (w : World) (hC : Kd.C (Kd.int .u8) w A l.length l) (hc : l.length ≤ c) (hb : ∀ x ∈ l, Byte x) (hlen : 1000 < l.length) (hq : (IntKind.u64.wrap kind).tmod 3 = 2) :
    Calls Try.prog 6 #[.int .i64 kind, .slice A l.length c] w fun e w' => e = .returned (.bool true) ∧ Below w.heap.size w w' := by
  have HC := Lib.hid hC
  have Hc := Lib.hid hc
  have Hb := Lib.hid hb
  clear hC hc hb
  go_enter Try.func6, Try.ntmps6
  go_wp2_with fail
  refine (worksC _).mono ?_
  rintro e w1 ⟨rfl, hb1⟩
  have HB1 : Hid (Below w.heap.size w w1) := hb1
  clear hb1
  go_wp2_with fail
  go_ret
  exact ⟨rfl, below_alloc HB1.out _⟩
set_option maxHeartbeats 4000000 in
set_option maxRecDepth 100000 in
theorem turned_9 (kind : Int) (A : Option Addr) (c : Nat) (l : List Int) (w : World) (hC : Kd.C (Kd.int .u8) w A l.length l) (hc : l.length ≤ c) (hb : ∀ x ∈ l, Byte x) (hlen : l.length ≤ 1000) (hq : (IntKind.u64.wrap kind).tmod 3 = 2) :
    Calls Try.prog 6 #[.int .i64 kind, .slice A l.length c] w fun e w' => e = .returned (.bool true) ∧ Below w.heap.size w w' := by
  have HC := Lib.hid hC
  have Hc := Lib.hid hc
  have Hb := Lib.hid hb
  clear hC hc hb
  go_enter Try.func6, Try.ntmps6
  go_wp2_with fail
  refine (worksC _).mono ?_
  rintro e w1 ⟨rfl, hb1⟩
  have HB1 : Hid (Below w.heap.size w w1) := hb1
  clear hb1
  go_upto_region 10 with fail
  have HB2 : Hid (Below w.heap.size w (w1.alloc (.cells #[.int .i64 3, .int .i64 6, .int .i64 9] 3))) := Lib.hid (below_alloc HB1.out _)
  generalize (some ⟨w1.heap.size, 0, none⟩ : Option Addr) = A1 at *
  generalize w1.alloc (.cells #[.int .i64 3, .int .i64 6, .int .i64 9] 3) = w2 at *
  clear hq
  go_upto_region 11 with (at_builtin; refine print_append_row (w0 := w2) w2.heap.size rfl (.tmp 25) (.tmp 26) 30 5 .u8 1 rfl Try.underlying30 info5 (by omega) (.slice (some ⟨w2.heap.size, 0, none⟩) 0 0) [] l A l.length c rfl rfl (own_lit w2 w2.heap.size 5 .u8 [] (Nat.le_refl _) (by simp)) (Kd.reads_of_C (enc := Value.int .u8) (d := (0 : Int)) (h1 := fun _ => rfl) (Kd.C_below HC.out (below_alloc HB2.out _))) (below_alloc (Below.refl _ _) _) (by simp) (by simp; omega) ?_; intro v3 w3 hown3 hb3 hg3 hat3; clear hg3 hat3; have HO3 : Hid (w3.ownsRow w2.heap.size 5 1 v3 l.length (nums .u8 l)) := hown3; have HB3 := Lib.hid hb3; clear hown3 hb3)
  obtain ⟨A3, c3, rfl, _, hc3⟩ := own_row HO3.out
  have Hc3 := Lib.hid hc3
  clear hc3
  have Hz2 : Hid (w.heap.size ≤ w2.heap.size) := Lib.hid HB2.out.size
  have HB4 : Hid (Below w.heap.size w w3) := Lib.hid (on HB2.out HB3.out)
  generalize w2.heap.size = B2 at *
  clear HB1 HB2 HB3
  go_wp2_with fail
  go_loopw [8] (fun i wr => ∃ q : Nat, q % 2 = 0 ∧ q ≤ l.length ∧ i = .int .i64 (q : Int) ∧ wr.ownsRow B2 5 1 (.slice A3 l.length c3) l.length (nums .u8 (turn 2 q l)) ∧ Below w.heap.size w wr) (fun i _ => l.length - (intOf i).toNat)
  case atStart => exact ⟨0, rfl, Nat.zero_le _, rfl, by rw [turn_zero]; exact HO3.out, HB4.out⟩
  case round =>
    obtain ⟨q, hq0, hq1, rfl, ho, hb⟩ := hrel
    have HO := Lib.hid ho
    have HB := Lib.hid hb
    clear ho hb HO3 HB4
    have Hq0 := Lib.hid hq0
    clear hq0
    by_cases hlt : q + 2 ≤ l.length
    · obtain ⟨wo, rfl⟩ : ∃ wo : World, wo = wr := ⟨_, rfl⟩
      obtain ⟨g, cap, he, hgb, hgl⟩ := HO.out.form (by omega)
      injection he with he1 _ he3
      subst he1
      clear he3 hgl
      have Hgb := Lib.hid hgb
      clear hgb
      go_wp2_with fail
      go_loopw [9] (fun k wk => ∃ j : Nat, j ≤ 2 ∧ k = .int .i64 (j : Int) ∧ wk.ownsRow B2 5 1 (.slice (some ⟨g, 0, none⟩) l.length c3) l.length (nums .u8 (turn 2 (q + j) l)) ∧ Below w.heap.size w wk) (fun k _ => 2 - (intOf k).toNat)
      case atStart => exact ⟨0, Nat.zero_le _, rfl, HO.out, HB.out⟩
      case round =>
        obtain ⟨j, hj, rfl, ho, hb⟩ := hrel
        have HOj := Lib.hid ho
        have HBj := Lib.hid hb
        clear ho hb
        by_cases hjn : j < 2
        · obtain ⟨ad, rfl, hcell⟩ := Kd.at_int (Kd.C_below HC.out HBj.out) ((q : Int) + 2 - 1 - (j : Int)) (by omega) (by omega)
          obtain ⟨hcs, hfs⟩ := own_at HOj.out ((q : Int) + (j : Int)) (by omega) (by omega)
          rw [show ((q : Int) + 2 - 1 - (j : Int)).toNat = q + 1 - j by omega] at hcell
          rw [show ((q : Int) + (j : Int)).toNat = q + j by omega] at hcs hfs
          have HRD : Hid (rd l ((q : Int) + 2 - 1 - (j : Int)) = l.getD (q + 2 - 1 - j) 0) := Lib.hid (by rw [← rd_getD]; congr 1; omega)
          generalize rd l ((q : Int) + 2 - 1 - (j : Int)) = x at *
          have hix0 : (0 : Int) ≤ (q : Int) + (j : Int) := by omega
          have hix1 : (q : Int) + (j : Int) < (l.length : Int) := by omega
          have hiy0 : (0 : Int) ≤ (q : Int) + 2 - 1 - (j : Int) := by omega
          have hiy1 : (q : Int) + 2 - 1 - (j : Int) < (l.length : Int) := by omega
          go_wp2_with fail
          go_roundw
          case rel =>
            refine ⟨j + 1, by omega, by go_num, ?_, HBj.out.setCell (Nat.le_trans Hz2.out Hgb.out) _⟩
            have hst := (own_store HOj.out ((q : Int) + (j : Int)) x).1
            rw [HRD.out, show ((q : Int) + (j : Int)).toNat = q + j by omega, turn_step (by omega) Hq0.out hjn hlt] at hst
            rw [HRD.out]
            first | exact hst | (rw [show ((q : Int) + (j : Int)).toNat = q + j by omega]; exact hst)
          case measure => simp [intOf]; omega
        · obtain rfl : j = 2 := by omega
          go_wp2_with fail
          go_roundw
          case rel => exact ⟨q + 2, by have := Hq0.out; omega, hlt, by go_num, HOj.out, HBj.out⟩
          case measure => simp [intOf]; omega
    · have HW : Hid (Whole 2 q l.length) := Lib.hid ⟨Hq0.out, hq1, by omega⟩
      obtain ⟨e1, k1, s1, u1, hp, hq⟩ := turned_got (kind := 9) (n := 2) (m := 2) q (pairs := false) (l := l) rfl (by decide) HW.out rfl rfl
      have HP := got_at Hb.out hp
      have HQ := got_at (turn_byte Hb.out) hq
      clear hp hq
      change Hid (∀ W A c, Kd.C (Kd.int .u8) W A (turn 2 q l).length (turn 2 q l) → (turn 2 q l).length ≤ c → Calls Try.prog 11 #[.int .i64 10, .agg #[.int .i64 0, .int .i64 0, .int .u32 0, .int .i32 0], .slice A (turn 2 q l).length c] W fun en w' => en = .returned (.agg #[.int .i64 e1, .int .i64 k1, .int .i64 s1, .int .i32 u1, .int .i32 0, .int .i64 0, .int .i64 0, .int .u32 0, .int .i32 0]) ∧ Below W.heap.size W w') at HQ
      rw [turn_len] at HQ
      go_wp2_with fail
      refine (HP.out _ _ _ (Kd.C_below HC.out HB.out) Hc.out).mono ?_
      rintro e w5 ⟨rfl, hb5⟩
      have HB5 : Hid (Below w.heap.size w w5) := Lib.hid (on HB.out hb5)
      have hCt : Kd.C (Kd.int .u8) w5 A3 l.length (turn 2 q l) := Kd.C_below (Kd.C_of_reads (d := (0 : Int)) (own_reads' HO.out)) hb5
      have HCt := Lib.hid hCt
      clear hCt hb5
      go_wp2_with fail
      refine (HQ.out _ _ _ HCt.out Hc3.out).mono ?_
      rintro e w6 ⟨rfl, hb6⟩
      have HB6 : Hid (Below w.heap.size w w6) := Lib.hid (on HB5.out hb6)
      clear hb6
      go_wp2_with fail
      go_ret
      exact ⟨rfl, HB6.out⟩
theorem wturned_walk (w : World) (kind : Int) (_ : (Lit.int .i64 kind).wf = true) (a : Option Addr) (len cap : Nat) (zs : List Int) (h : (a = none ∧ len = 0 ∧ cap = 0 ∧ zs = []) ∨ ∃ x, a = some x ∧ len ≤ cap ∧ cap ≤ maxLen ∧ zs.length = cap ∧ (∀ i, i < zs.length → w.cell? (x.add i) = some (.int .u8 (zs.getD i 0))) ∧ ∀ n ∈ zs, (Lit.int .u8 n).wf = true)
    (hl : len * 1 ≤ 140737488351232) : Calls Try.prog 6 #[.int .i64 kind, .slice a len cap] w fun e w' => e = .returned (.bool true) ∧ Below w.heap.size w w' := by
  obtain ⟨l, rfl, hC, hc, hb⟩ := open_row h
  have hq0 : (0 : Int) ≤ (IntKind.u64.wrap kind).tmod 3 := Int.tmod_nonneg _ (wrap_u64_nonneg kind)
  have hq1 : (IntKind.u64.wrap kind).tmod 3 < 3 := Int.tmod_lt_of_pos _ (by omega)
  by_cases hlen : l.length ≤ 1000
  · rcases (show (IntKind.u64.wrap kind).tmod 3 = 0 ∨ (IntKind.u64.wrap kind).tmod 3 = 1 ∨ (IntKind.u64.wrap kind).tmod 3 = 2 by omega) with h | h | h
    · exact turned_3 kind a cap l w hC hc hb hlen h
    · exact turned_6 kind a cap l w hC hc hb hlen h
    · exact turned_9 kind a cap l w hC hc hb hlen h
  · rcases (show (IntKind.u64.wrap kind).tmod 3 = 0 ∨ (IntKind.u64.wrap kind).tmod 3 = 1 ∨ (IntKind.u64.wrap kind).tmod 3 = 2 by omega) with h | h | h
    · exact turned_3_big kind a cap l w hC hc hb (by omega) h
    · exact turned_6_big kind a cap l w hC hc hb (by omega) h
    · exact turned_9_big kind a cap l w hC hc hb (by omega) h
end Go.Proofs.Ytflmpdfcbdfabaa.Wd
