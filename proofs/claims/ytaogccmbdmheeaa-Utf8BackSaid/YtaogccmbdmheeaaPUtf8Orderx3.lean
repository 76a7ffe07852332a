-- PRINTED BY print.sh 35421559b90ae4d0a3588c463048766b98c2df88dd9212a6774a882060cdf62d: not written by this session
import Derived.Test.YtaogccmbdmheeaaPUtf8Orderx0
namespace Go.Proofs.Ytaogccmbdmheeaa.PUtf8Order
open Go.RowKit Go.Proofs.YtaogccmbdmheeaaW.PrintWords Go.Proofs.YtaogccmbdmheeaaW.PrintLast Go.Proofs.YtaogccmbdmheeaaW.PrintMore
attribute [local go_sem] max2_int min2_int max_two min_two max_three min_three max_four min_four   -- for this text's walks alone
set_option linter.unusedVariables false
set_option linter.unusedSimpArgs false

/-! ### ucs_High: function 27 -/
def ucs_High.f (a0 : Int) : Option (Bool) := if a0 ≥ 55296 then (some (decide (a0 < 56320))) else (some false)
set_option maxHeartbeats 8000000 in
set_option maxRecDepth 100000 in
theorem ucs_High.calls (a0 : Int) (r : Bool) (w : World) (h : ucs_High.f a0 = some r) :
    Calls Try.prog 27 #[.int .i32 a0] w fun e w' => e = .returned (.bool r) ∧ Drawn0 w w' := by
  have H : (if a0 ≥ 55296 then (some (decide (a0 < 56320))) else (some false)) = some r := h
  clear h
  by_cases c2 : a0 ≥ 55296
  · rw [if_pos c2] at H
    have c2b0 : decide (55296 ≤ a0) = true := decide_eq_true c2
    clear c2
    obtain rfl := Option.some.inj H
    go_enter Try.func27, Try.ntmps27
    go_wp2
    go_ret
    exact ⟨by first | rfl | (simp; done) | (simp [*]; done), by repeat (first | exact Drawn0.refl _ | apply Drawn0.step)⟩
  · rw [if_neg c2] at H
    have c2b0 : decide (55296 ≤ a0) = false := decide_eq_false c2
    clear c2
    obtain rfl := Option.some.inj H
    go_enter Try.func27, Try.ntmps27
    go_wp2
    go_ret
    exact ⟨by first | rfl | (simp; done) | (simp [*]; done), by repeat (first | exact Drawn0.refl _ | apply Drawn0.step)⟩

/-! ### ucs_Low: function 28 -/
def ucs_Low.f (a0 : Int) : Option (Bool) := if a0 ≥ 56320 then (some (decide (a0 ≤ 57343))) else (some false)
set_option maxHeartbeats 8000000 in
set_option maxRecDepth 100000 in
theorem ucs_Low.calls (a0 : Int) (r : Bool) (w : World) (h : ucs_Low.f a0 = some r) :
    Calls Try.prog 28 #[.int .i32 a0] w fun e w' => e = .returned (.bool r) ∧ Drawn0 w w' := by
  have H : (if a0 ≥ 56320 then (some (decide (a0 ≤ 57343))) else (some false)) = some r := h
  clear h
  by_cases c2 : a0 ≥ 56320
  · rw [if_pos c2] at H
    have c2b0 : decide (56320 ≤ a0) = true := decide_eq_true c2
    clear c2
    obtain rfl := Option.some.inj H
    go_enter Try.func28, Try.ntmps28
    go_wp2
    go_ret
    exact ⟨by first | rfl | (simp; done) | (simp [*]; done), by repeat (first | exact Drawn0.refl _ | apply Drawn0.step)⟩
  · rw [if_neg c2] at H
    have c2b0 : decide (56320 ≤ a0) = false := decide_eq_false c2
    clear c2
    obtain rfl := Option.some.inj H
    go_enter Try.func28, Try.ntmps28
    go_wp2
    go_ret
    exact ⟨by first | rfl | (simp; done) | (simp [*]; done), by repeat (first | exact Drawn0.refl _ | apply Drawn0.step)⟩

/-! ### ucs_Scalar: function 21 -/
def ucs_Scalar.f (a0 : Int) : Option (Bool) := if a0 ≥ 0 then (if a0 ≤ 1114111 then ((ucs_High.f a0).bind fun t101 => (if t101 = true then (some false) else ((ucs_Low.f a0).bind fun t102 => (some (!t102))))) else (some false)) else (some false)
set_option maxHeartbeats 8000000 in
set_option maxRecDepth 100000 in
theorem ucs_Scalar.calls (a0 : Int) (r : Bool) (w : World) (h : ucs_Scalar.f a0 = some r) :
    Calls Try.prog 21 #[.int .i32 a0] w fun e w' => e = .returned (.bool r) ∧ Drawn0 w w' := by
  have H : (if a0 ≥ 0 then (if a0 ≤ 1114111 then ((ucs_High.f a0).bind fun t101 => (if t101 = true then (some false) else ((ucs_Low.f a0).bind fun t102 => (some (!t102))))) else (some false)) else (some false)) = some r := h
  clear h
  by_cases c2 : a0 ≥ 0
  · rw [if_pos c2] at H
    have c2b0 : decide (0 ≤ a0) = true := decide_eq_true c2
    clear c2
    by_cases c3 : a0 ≤ 1114111
    · rw [if_pos c3] at H
      have c3b0 : decide (a0 ≤ 1114111) = true := decide_eq_true c3
      clear c3
      replace H := Option.bind_eq_some_iff.mp H
      obtain ⟨t101, A40, H⟩ := H
      replace H : (if t101 = true then (some false) else ((ucs_Low.f a0).bind fun t102 => (some (!t102)))) = some r := H
      have A4 := Aside0.mk A40
      clear A40
      by_cases c5 : t101 = true
      · subst c5
        have H1 : (some false) = some r := by rw [if_pos rfl] at H; exact H
        clear H
        have H := H1
        clear H1
        obtain rfl := Option.some.inj H
        go_enter Try.func21, Try.ntmps21
        go_wp2_with (first | (go_at_call 27; (with_reducible refine (ucs_High.calls a0 true _ A4.out).mono ?_); rintro e w' ⟨rfl, ⟨nd, rfl⟩⟩))
        go_ret
        exact ⟨by first | rfl | (simp; done) | (simp [*]; done), by repeat (first | exact Drawn0.refl _ | apply Drawn0.step)⟩
      · replace c5 := Bool.eq_false_iff.mpr c5
        subst c5
        have H1 : ((ucs_Low.f a0).bind fun t102 => (some (!t102))) = some r := by rw [if_neg (show ¬ (false = true) by decide)] at H; exact H
        clear H
        have H := H1
        clear H1
        replace H := Option.bind_eq_some_iff.mp H
        obtain ⟨t102, A60, H⟩ := H
        replace H : (some (!t102)) = some r := H
        have A6 := Aside0.mk A60
        clear A60
        obtain rfl := Option.some.inj H
        go_enter Try.func21, Try.ntmps21
        go_wp2_with (first | (go_at_call 27; (with_reducible refine (ucs_High.calls a0 false _ A4.out).mono ?_); rintro e w' ⟨rfl, ⟨nd, rfl⟩⟩) | (go_at_call 28; (with_reducible refine (ucs_Low.calls a0 t102 _ A6.out).mono ?_); rintro e w' ⟨rfl, ⟨nd, rfl⟩⟩))
        go_ret
        exact ⟨by first | rfl | (simp; done) | (simp [*]; done), by repeat (first | exact Drawn0.refl _ | apply Drawn0.step)⟩
    · rw [if_neg c3] at H
      have c3b0 : decide (a0 ≤ 1114111) = false := decide_eq_false c3
      clear c3
      obtain rfl := Option.some.inj H
      go_enter Try.func21, Try.ntmps21
      go_wp2
      go_ret
      exact ⟨by first | rfl | (simp; done) | (simp [*]; done), by repeat (first | exact Drawn0.refl _ | apply Drawn0.step)⟩
  · rw [if_neg c2] at H
    have c2b0 : decide (0 ≤ a0) = false := decide_eq_false c2
    clear c2
    obtain rfl := Option.some.inj H
    go_enter Try.func21, Try.ntmps21
    go_wp2
    go_ret
    exact ⟨by first | rfl | (simp; done) | (simp [*]; done), by repeat (first | exact Drawn0.refl _ | apply Drawn0.step)⟩

/-! ### utf8_size: function 22 -/
def utf8_size.f (a0 : Int) : Option (Int) := if a0 < 128 then (some 1) else (if a0 < 2048 then (some 2) else (if a0 < 65536 then (some 3) else (some 4)))
set_option maxHeartbeats 8000000 in
set_option maxRecDepth 100000 in
theorem utf8_size.calls (a0 : Int) (r : Int) (w : World) (h : utf8_size.f a0 = some r) :
    Calls Try.prog 22 #[.int .i32 a0] w fun e w' => e = .returned (.int .i64 r) ∧ Drawn0 w w' := by
  have H : (if a0 < 128 then (some 1) else (if a0 < 2048 then (some 2) else (if a0 < 65536 then (some 3) else (some 4)))) = some r := h
  clear h
  by_cases c2 : a0 < 128
  · rw [if_pos c2] at H
    have c2b0 : decide (a0 < 128) = true := decide_eq_true c2
    clear c2
    obtain rfl := Option.some.inj H
    go_enter Try.func22, Try.ntmps22
    go_wp2
    go_ret
    exact ⟨by first | rfl | (simp; done) | (simp [*]; done), by repeat (first | exact Drawn0.refl _ | apply Drawn0.step)⟩
  · rw [if_neg c2] at H
    have c2b0 : decide (a0 < 128) = false := decide_eq_false c2
    clear c2
    by_cases c3 : a0 < 2048
    · rw [if_pos c3] at H
      have c3b0 : decide (a0 < 2048) = true := decide_eq_true c3
      clear c3
      obtain rfl := Option.some.inj H
      go_enter Try.func22, Try.ntmps22
      go_wp2
      go_ret
      exact ⟨by first | rfl | (simp; done) | (simp [*]; done), by repeat (first | exact Drawn0.refl _ | apply Drawn0.step)⟩
    · rw [if_neg c3] at H
      have c3b0 : decide (a0 < 2048) = false := decide_eq_false c3
      clear c3
      by_cases c4 : a0 < 65536
      · rw [if_pos c4] at H
        have c4b0 : decide (a0 < 65536) = true := decide_eq_true c4
        clear c4
        obtain rfl := Option.some.inj H
        go_enter Try.func22, Try.ntmps22
        go_wp2
        go_ret
        exact ⟨by first | rfl | (simp; done) | (simp [*]; done), by repeat (first | exact Drawn0.refl _ | apply Drawn0.step)⟩
      · rw [if_neg c4] at H
        have c4b0 : decide (a0 < 65536) = false := decide_eq_false c4
        clear c4
        obtain rfl := Option.some.inj H
        go_enter Try.func22, Try.ntmps22
        go_wp2
        go_ret
        exact ⟨by first | rfl | (simp; done) | (simp [*]; done), by repeat (first | exact Drawn0.refl _ | apply Drawn0.step)⟩

/-! ### utf8_Set: function 11 -/
def utf8_Set.l0 : Nat → Int → Int → List Int → Int → Option (Int × ByteArray × Int × Int × Int × Int)
  | 0, _, _, _, _ => none
  | k + 1, x0, x3, x4, x5 => if x5 > 0 then (if 0 ≤ x5 then (if x5 < (x4.length : Int) then (utf8_Set.l0 k (x0 / 64) x3 (x4.set (x5 : Int).toNat (Go.bits .or .u8 128 ((Go.bits .and .i32 x0 63) % 256))) (wrap64 (x5 - 1))) else (none)) else (none)) else (if 0 ≤ (wrap64 (8 - x3)) then (if 0 < (x4.length : Int) then (some (0, strOfNums (x4.set (0 : Int).toNat (Go.bits .or .u8 (shl .u8 255 (wrap64 (8 - x3))) ((x0) % 256))), 0, 0, 0, 0)) else (none)) else (none))
def utf8_Set.f (k : Nat) (a0 : Int) : Option (Int × ByteArray × Int × Int × Int × Int) := (ucs_Scalar.f a0).bind fun t104 => (if t104 = true then ((utf8_size.f a0).bind fun t105 => (if t105 = 1 then (some (0, strOfNums (([(a0) % 256] : List Int)), 0, 0, 0, 0)) else (if 0 ≤ t105 then (if (t105 : Int).toNat ≤ 281474976710656 then (utf8_Set.l0 k a0 t105 (List.replicate (t105 : Int).toNat 0) (wrap64 (t105 - 1))) else (none)) else (none)))) else (some (11, (⟨#[]⟩ : ByteArray), 0, 0, 0, 0)))
theorem utf8_Set.mono_l : ∀ k, (∀ y0 y1 y2 y3, LeO (utf8_Set.l0 k y0 y1 y2 y3) (utf8_Set.l0 (k + 1) y0 y1 y2 y3))
  | 0 => fun _ _ _ _ r h => by simp [utf8_Set.l0] at h
  | k + 1 => by
    have ih0 := utf8_Set.mono_l k
    · intro y0 y1 y2 y3
      unfold utf8_Set.l0
      repeat' first
      | (with_reducible exact ih0 _ _ _ _)
      | (with_reducible exact LeO.refl _)
      | (with_reducible exact LeO.none _)
      | (with_reducible refine LeO.ite ?_ ?_)
      | (with_reducible refine LeO.bind ?_ (fun _ => ?_))
      | exact ih0 _ _ _ _
      | exact LeO.none _
      | refine LeO.ite ?_ ?_
      | refine LeO.bind ?_ (fun _ => ?_)
theorem utf8_Set.mono : ∀ a0 k, LeO (utf8_Set.f k a0) (utf8_Set.f (k + 1) a0) := by
  intro a0 k
  have ih0 := utf8_Set.mono_l k
  unfold utf8_Set.f
  repeat' first
      | (with_reducible exact ih0 _ _ _ _)
      | (with_reducible exact LeO.refl _)
      | (with_reducible exact LeO.none _)
      | (with_reducible refine LeO.ite ?_ ?_)
      | (with_reducible refine LeO.bind ?_ (fun _ => ?_))
      | exact ih0 _ _ _ _
      | exact LeO.none _
      | refine LeO.ite ?_ ?_
      | refine LeO.bind ?_ (fun _ => ?_)
set_option maxHeartbeats 8000000 in
set_option maxRecDepth 100000 in
theorem utf8_Set.calls (k : Nat) (a0 : Int) (r1 : Int) (r2 : ByteArray) (r3 : Int) (r4 : Int) (r5 : Int) (r6 : Int) (w : World) (h : utf8_Set.f k a0 = some (r1, r2, r3, r4, r5, r6)) :
    Calls Try.prog 11 #[.int .i32 a0] w fun e w' => e = .returned (.agg #[.int .i64 r1, .string r2, .int .i64 r3, .int .i64 r4, .int .u32 r5, .int .i32 r6]) ∧ Below w.heap.size w w' := by
  have hu27 := Try.underlying27
  have HB := Aside0.mk (Below.refl w.heap.size w)
  have H : ((ucs_Scalar.f a0).bind fun t104 => (if t104 = true then ((utf8_size.f a0).bind fun t105 => (if t105 = 1 then (some (0, strOfNums (([(a0) % 256] : List Int)), 0, 0, 0, 0)) else (if 0 ≤ t105 then (if (t105 : Int).toNat ≤ 281474976710656 then (utf8_Set.l0 k a0 t105 (List.replicate (t105 : Int).toNat 0) (wrap64 (t105 - 1))) else (none)) else (none)))) else (some (11, (⟨#[]⟩ : ByteArray), 0, 0, 0, 0)))) = some (r1, r2, r3, r4, r5, r6) := h
  clear h
  replace H := Option.bind_eq_some_iff.mp H
  obtain ⟨t104, A20, H⟩ := H
  replace H : (if t104 = true then ((utf8_size.f a0).bind fun t105 => (if t105 = 1 then (some (0, strOfNums (([(a0) % 256] : List Int)), 0, 0, 0, 0)) else (if 0 ≤ t105 then (if (t105 : Int).toNat ≤ 281474976710656 then (utf8_Set.l0 k a0 t105 (List.replicate (t105 : Int).toNat 0) (wrap64 (t105 - 1))) else (none)) else (none)))) else (some (11, (⟨#[]⟩ : ByteArray), 0, 0, 0, 0))) = some (r1, r2, r3, r4, r5, r6) := H
  have A2 := Aside0.mk A20
  clear A20
  by_cases c3 : t104 = true
  · subst c3
    have H1 : ((utf8_size.f a0).bind fun t105 => (if t105 = 1 then (some (0, strOfNums (([(a0) % 256] : List Int)), 0, 0, 0, 0)) else (if 0 ≤ t105 then (if (t105 : Int).toNat ≤ 281474976710656 then (utf8_Set.l0 k a0 t105 (List.replicate (t105 : Int).toNat 0) (wrap64 (t105 - 1))) else (none)) else (none)))) = some (r1, r2, r3, r4, r5, r6) := by rw [if_pos rfl] at H; exact H
    clear H
    have H := H1
    clear H1
    replace H := Option.bind_eq_some_iff.mp H
    obtain ⟨t105, A40, H⟩ := H
    replace H : (if t105 = 1 then (some (0, strOfNums (([(a0) % 256] : List Int)), 0, 0, 0, 0)) else (if 0 ≤ t105 then (if (t105 : Int).toNat ≤ 281474976710656 then (utf8_Set.l0 k a0 t105 (List.replicate (t105 : Int).toNat 0) (wrap64 (t105 - 1))) else (none)) else (none))) = some (r1, r2, r3, r4, r5, r6) := H
    have A4 := Aside0.mk A40
    clear A40
    by_cases c5 : t105 = 1
    · rw [if_pos c5] at H
      have c5b0 : (t105 == 1) = true := beq_iff_eq.mpr c5
      have c5b1 : (t105 != 1) = false := bne_eq_false_iff_eq.mpr c5
      clear c5
      obtain ⟨y106, hy106⟩ : ∃ y_ : List Int, y_ = (([(a0) % 256] : List Int)) := ⟨_, rfl⟩
      replace H : (some (0, strOfNums y106, 0, 0, 0, 0)) = some (r1, r2, r3, r4, r5, r6) := by first | (rw [hy106]; with_reducible exact H) | (have H2_ := (Option.bind_some _ _).symm.trans H; rw [hy106]; with_reducible exact H2_) | (have H2_ := (Option.bind_some _ _).symm.trans H; with_reducible exact H2_) | with_reducible exact H | (rw [hy106]; exact H) | exact H
      have Ny106 := Aside0.mk hy106
      clear hy106
      simp only [Option.some.injEq, Prod.mk.injEq] at H
      obtain ⟨rfl, rfl, rfl, rfl, rfl, rfl⟩ := H
      go_enter Try.func11, Try.ntmps11
      go_wp2_with (first | ((with_reducible refine gate_dst (N := 2) rfl ?_); refine box_event ?hg (N := 2) ?hd (cs := #[.int .i64 0, .string (⟨#[]⟩ : ByteArray), .int .i64 0, .int .i64 0, .int .u32 0, .int .i32 0]) (t := 27) ?hr ?_; (case hd => rfl); (case hg => rfl); (case hr => first | (go_simp; done) | (go_simp; rfl)); intro gb103 hg w6 hbox hb; have n0_ := Aside0.mk (below_step (by repeat (first | (with_reducible first | exact HB.out | apply below_alloc | apply pw_below_drewN | apply below_drew1) | exact HB.out)) hb); have n1_ := Aside0.mk (hbox); have n2_ := Aside0.mk ((by rw [hg]; exact (below_size (by repeat (first | (with_reducible first | exact HB.out | apply below_alloc | apply pw_below_drewN | apply below_drew1) | exact HB.out))) : w.heap.size ≤ gb103)); have n3_ := Aside0.mk ((by rw [hg]; exact (below_size (by repeat (first | (with_reducible first | exact HB.out | apply below_alloc | apply pw_below_drewN | apply below_drew1) | exact HB.out))) : w.heap.size ≤ gb103)); clear HB; have HB := n0_; have BK103 := n1_; have GW103 := n2_; have GE103 := n3_; clear n0_ n1_ n2_ n3_; clear hb hbox hg) | ((with_reducible refine gate_callee (f := 21) rfl ?_); refine goesL_ (some 7) rfl rfl Try.func21 (by kernel_rfl) rfl #[.int .i32 a0] rfl (by (try simp only [List.map_toArray, List.map_cons, List.map_nil]); first | done | rfl | (simp only [List.length_drop, List.length_take]; rfl)) ?_; (with_reducible refine (ucs_Scalar.calls a0 true _ A2.out).mono ?_); rintro e w' ⟨rfl, ⟨nd, rfl⟩⟩; refine ⟨_, rfl, ?_⟩; (try (rw [drewN_self w6]; generalize hq_ : World.drewN w6 _ = w6; have n0_ : Aside0 (w6.heap[gb103]? = some (.cells #[.int .i64 0, .string (⟨#[]⟩ : ByteArray), .int .i64 0, .int .i64 0, .int .u32 0, .int .i32 0] 27 (0, 0))) := ⟨by rw [← hq_]; exact (by (with_reducible repeat (first | refine blk_drewN ?_ _ | refine blk_drew ?_ | refine blk_alloc ?_ _)); exact BK103.out)⟩; have n1_ : Aside0 (Below w.heap.size w w6) := ⟨by rw [← hq_]; exact (by repeat (first | (with_reducible first | exact HB.out | apply below_alloc | apply pw_below_drewN | apply below_drew1 | refine below_set ?_ GE103.out) | exact HB.out))⟩; clear BK103 HB hq_; have BK103 := n0_; have HB := n1_; clear n0_ n1_))) | ((with_reducible refine gate_callee (f := 22) rfl ?_); refine goesL_ (some 11) rfl rfl Try.func22 (by kernel_rfl) rfl #[.int .i32 a0] rfl (by (try simp only [List.map_toArray, List.map_cons, List.map_nil]); first | done | rfl | (simp only [List.length_drop, List.length_take]; rfl)) ?_; (with_reducible refine (utf8_size.calls a0 t105 _ A4.out).mono ?_); rintro e w' ⟨rfl, ⟨nd, rfl⟩⟩; refine ⟨_, rfl, ?_⟩; (try (rw [drewN_self w6]; generalize hq_ : World.drewN w6 _ = w6; have n0_ : Aside0 (w6.heap[gb103]? = some (.cells #[.int .i64 0, .string (⟨#[]⟩ : ByteArray), .int .i64 0, .int .i64 0, .int .u32 0, .int .i32 0] 27 (0, 0))) := ⟨by rw [← hq_]; exact (by (with_reducible repeat (first | refine blk_drewN ?_ _ | refine blk_drew ?_ | refine blk_alloc ?_ _)); exact BK103.out)⟩; have n1_ : Aside0 (Below w.heap.size w w6) := ⟨by rw [← hq_]; exact (by repeat (first | (with_reducible first | exact HB.out | apply below_alloc | apply pw_below_drewN | apply below_drew1 | refine below_set ?_ GE103.out) | exact HB.out))⟩; clear BK103 HB hq_; have BK103 := n0_; have HB := n1_; clear n0_ n1_))) | ((with_reducible refine gate_dst (N := 16) rfl ?_); refine Kd.R_lit (Kd.int .u8) _ 5 ?hg (N := 16) ?hd (xs := ([(a0) % 256] : List Int)) (inner := [.int .u8 ((a0) % 256)]) (ok := fun _ => True) (okp := fun _ => True) ?hr ?hp (fun _ hk => hk) trivial (Below.refl _ _) (Nat.le_refl _) (by simp) ?_; (case hd => rfl); (case hg => rfl); (case hr => first | (go_simp; done) | (go_simp; rfl)); (case hp => exact (Reps.one (show Kd.M (Kd.int .u8) _ _ _ ((a0) % 256) [.int .u8 ((a0) % 256)] from rfl) (Reps.none _ _))); intro v107 w7 ho8 hb hg_ hnew_; clear hg_ hnew_; (first | rw [← Ny106.out] at ho8 | (simp only [Int.reduceToNat] at ho8; rw [← Ny106.out] at ho8)); have n0_ := Aside0.mk (Kd.R_lower ho8 (below_size (by repeat (first | (with_reducible first | exact HB.out | apply below_alloc | apply pw_below_drewN | apply below_drew1 | refine below_set ?_ GE103.out) | exact HB.out)))); have n1_ := Aside0.mk (blk_below (g := gb103) (o := .cells #[.int .i64 0, .string (⟨#[]⟩ : ByteArray), .int .i64 0, .int .i64 0, .int .u32 0, .int .i32 0] 27 (0, 0)) (by (with_reducible repeat (first | refine blk_drewN ?_ _ | refine blk_drew ?_ | refine blk_alloc ?_ _)); exact BK103.out) hb); have n2_ := Aside0.mk (below_step (by repeat (first | (with_reducible first | exact HB.out | apply below_alloc | apply pw_below_drewN | apply below_drew1 | refine below_set ?_ GE103.out) | exact HB.out)) hb); clear BK103; clear HB; have HO108 := n0_; have BK103 := n1_; have HB := n2_; clear n0_ n1_ n2_; clear hb ho8; have hcv9 := own_string (P := Try.prog) Try.underlying30 Try.underlying5 Try.underlying9 (Kd.own_of_R HO108.out); have hcz10_0 : w7.cell? ⟨gb103, 0, none⟩ = some (.int .i64 0) := (blk_cell BK103.out 0).trans rfl; have hcz10_1 : w7.cell? ⟨gb103, 1, none⟩ = some (.string (⟨#[]⟩ : ByteArray)) := (blk_cell BK103.out 1).trans rfl; have hcz10_2 : w7.cell? ⟨gb103, 2, none⟩ = some (.int .i64 0) := (blk_cell BK103.out 2).trans rfl; have hcz10_3 : w7.cell? ⟨gb103, 3, none⟩ = some (.int .i64 0) := (blk_cell BK103.out 3).trans rfl; have hcz10_4 : w7.cell? ⟨gb103, 4, none⟩ = some (.int .u32 0) := (blk_cell BK103.out 4).trans rfl; have hcz10_5 : w7.cell? ⟨gb103, 5, none⟩ = some (.int .i32 0) := (blk_cell BK103.out 5).trans rfl; have hfz10_0 := blk_frozen BK103.out 0; have hfz10_1 := blk_frozen BK103.out 1; have hfz10_2 := blk_frozen BK103.out 2; have hfz10_3 := blk_frozen BK103.out 3; have hfz10_4 := blk_frozen BK103.out 4; have hfz10_5 := blk_frozen BK103.out 5))
      refine bodyPost_ret (results_cell_row rfl _ _ gb103 27 #[.int .i64 0, .string (strOfNums y106), .int .i64 0, .int .i64 0, .int .u32 0, .int .i32 0] (0, 0) _ rfl (by (with_reducible repeat (first | refine blk_drewN ?_ _ | refine blk_drew ?_ | refine blk_alloc ?_ _)); refine blk_put (cs := #[.int .i64 0, .string (strOfNums y106), .int .i64 0, .int .i64 0, .int .u32 0, .int .i32 0]) ?_ 5 _ rfl; (with_reducible repeat (first | refine blk_drewN ?_ _ | refine blk_drew ?_ | refine blk_alloc ?_ _)); refine blk_put (cs := #[.int .i64 0, .string (strOfNums y106), .int .i64 0, .int .i64 0, .int .u32 0, .int .i32 0]) ?_ 4 _ rfl; (with_reducible repeat (first | refine blk_drewN ?_ _ | refine blk_drew ?_ | refine blk_alloc ?_ _)); refine blk_put (cs := #[.int .i64 0, .string (strOfNums y106), .int .i64 0, .int .i64 0, .int .u32 0, .int .i32 0]) ?_ 3 _ rfl; (with_reducible repeat (first | refine blk_drewN ?_ _ | refine blk_drew ?_ | refine blk_alloc ?_ _)); refine blk_put (cs := #[.int .i64 0, .string (strOfNums y106), .int .i64 0, .int .i64 0, .int .u32 0, .int .i32 0]) ?_ 2 _ rfl; (with_reducible repeat (first | refine blk_drewN ?_ _ | refine blk_drew ?_ | refine blk_alloc ?_ _)); refine blk_put (cs := #[.int .i64 0, .string (⟨#[]⟩ : ByteArray), .int .i64 0, .int .i64 0, .int .u32 0, .int .i32 0]) ?_ 1 _ rfl; (with_reducible repeat (first | refine blk_drewN ?_ _ | refine blk_drew ?_ | refine blk_alloc ?_ _)); refine blk_put (cs := #[.int .i64 0, .string (⟨#[]⟩ : ByteArray), .int .i64 0, .int .i64 0, .int .u32 0, .int .i32 0]) ?_ 0 _ rfl; (with_reducible repeat (first | refine blk_drewN ?_ _ | refine blk_drew ?_ | refine blk_alloc ?_ _)); exact BK103.out) Try.underlying27 rfl (by kernel_rfl)) rfl ?_
      exact ⟨by first | rfl | (simp [errW_none, errW_some] <;> rfl) | (simp [*, errW_none, errW_some] <;> rfl), by repeat (first | (with_reducible first | exact HB.out | apply below_alloc | apply pw_below_drewN | apply below_drew1 | refine below_set ?_ GE103.out) | exact HB.out)⟩
    · rw [if_neg c5] at H
      have c5b0 : (t105 == 1) = false := beq_eq_false_iff_ne.mpr c5
      have c5b1 : (t105 != 1) = true := bne_iff_ne.mpr c5
      by_cases c11 : 0 ≤ t105
      · rw [if_pos c11] at H
        have c11b0 := eq_true c11
        have c11b1 : decide (0 ≤ t105) = true := decide_eq_true c11
        clear c11
        by_cases c12 : (t105 : Int).toNat ≤ 281474976710656
        · rw [if_pos c12] at H
          have c12b0 := eq_true c12
          have c12b1 : decide ((t105 : Int).toNat ≤ 281474976710656) = true := decide_eq_true c12
          clear c12
          obtain ⟨y109, hy109⟩ : ∃ y_ : List Int, y_ = (List.replicate (t105 : Int).toNat 0) := ⟨_, rfl⟩
          replace H : (utf8_Set.l0 k a0 t105 y109 (wrap64 (t105 - 1))) = some (r1, r2, r3, r4, r5, r6) := by first | (rw [hy109]; with_reducible exact H) | (have H2_ := (Option.bind_some _ _).symm.trans H; rw [hy109]; with_reducible exact H2_) | (have H2_ := (Option.bind_some _ _).symm.trans H; with_reducible exact H2_) | with_reducible exact H | (rw [hy109]; exact H) | exact H
          have Ny109 := Aside0.mk hy109
          clear hy109
          have H' := Aside0.mk H
          clear H
          go_enter Try.func11, Try.ntmps11
          go_wp2_with (first | ((with_reducible refine gate_dst (N := 2) rfl ?_); refine box_event ?hg (N := 2) ?hd (cs := #[.int .i64 0, .string (⟨#[]⟩ : ByteArray), .int .i64 0, .int .i64 0, .int .u32 0, .int .i32 0]) (t := 27) ?hr ?_; (case hd => rfl); (case hg => rfl); (case hr => first | (go_simp; done) | (go_simp; rfl)); intro gb103 hg w13 hbox hb; have n0_ := Aside0.mk (below_step (by repeat (first | (with_reducible first | exact HB.out | apply below_alloc | apply pw_below_drewN | apply below_drew1) | exact HB.out)) hb); have n1_ := Aside0.mk (hbox); have n2_ := Aside0.mk ((by rw [hg]; exact (below_size (by repeat (first | (with_reducible first | exact HB.out | apply below_alloc | apply pw_below_drewN | apply below_drew1) | exact HB.out))) : w.heap.size ≤ gb103)); have n3_ := Aside0.mk ((by rw [hg]; exact (below_size (by repeat (first | (with_reducible first | exact HB.out | apply below_alloc | apply pw_below_drewN | apply below_drew1) | exact HB.out))) : w.heap.size ≤ gb103)); clear HB; have HB := n0_; have BK103 := n1_; have GW103 := n2_; have GE103 := n3_; clear n0_ n1_ n2_ n3_; clear hb hbox hg) | ((with_reducible refine gate_callee (f := 21) rfl ?_); refine goesL_ (some 7) rfl rfl Try.func21 (by kernel_rfl) rfl #[.int .i32 a0] rfl (by (try simp only [List.map_toArray, List.map_cons, List.map_nil]); first | done | rfl | (simp only [List.length_drop, List.length_take]; rfl)) ?_; (with_reducible refine (ucs_Scalar.calls a0 true _ A2.out).mono ?_); rintro e w' ⟨rfl, ⟨nd, rfl⟩⟩; refine ⟨_, rfl, ?_⟩) | ((with_reducible refine gate_callee (f := 22) rfl ?_); refine goesL_ (some 11) rfl rfl Try.func22 (by kernel_rfl) rfl #[.int .i32 a0] rfl (by (try simp only [List.map_toArray, List.map_cons, List.map_nil]); first | done | rfl | (simp only [List.length_drop, List.length_take]; rfl)) ?_; (with_reducible refine (utf8_size.calls a0 t105 _ A4.out).mono ?_); rintro e w' ⟨rfl, ⟨nd, rfl⟩⟩; refine ⟨_, rfl, ?_⟩) | ((with_reducible refine gate_dst (N := 20) rfl ?_); refine Kd.R_make (Kd.int .u8) _ 5 rfl (N := 20) rfl 30 _ _ rfl t105 rfl rfl Try.underlying30 (.int .u8 0) 1 info5 rfl (by decide) (by omega) 0 (ok := fun _ => True) (okp := fun _ => True) rfl (fun _ hk => hk) trivial (of_decide_eq_true (by first | (with_reducible assumption) | assumption)) (Nat.le_trans (Nat.mul_le_mul_right _ (of_decide_eq_true (by first | (with_reducible assumption) | assumption) : t105.toNat ≤ 281474976710656)) (by omega)) (Below.refl _ _) (Nat.le_refl _) ?_; intro v110 w14 ho15 hb hg_ hnew_; clear hg_ hnew_; (first | rw [← Ny109.out] at ho15 | (simp only [Int.reduceToNat] at ho15; rw [← Ny109.out] at ho15)); have n0_ := Aside0.mk (Kd.R_lower ho15 (below_size (by repeat (first | (with_reducible first | exact HB.out | apply below_alloc | apply pw_below_drewN | apply below_drew1 | refine below_set ?_ GE103.out) | exact HB.out)))); have n1_ := Aside0.mk (blk_below (g := gb103) (o := .cells #[.int .i64 0, .string (⟨#[]⟩ : ByteArray), .int .i64 0, .int .i64 0, .int .u32 0, .int .i32 0] 27 (0, 0)) (by (with_reducible repeat (first | refine blk_drewN ?_ _ | refine blk_drew ?_ | refine blk_alloc ?_ _)); exact BK103.out) hb); have n2_ := Aside0.mk (below_step (by repeat (first | (with_reducible first | exact HB.out | apply below_alloc | apply pw_below_drewN | apply below_drew1 | refine below_set ?_ GE103.out) | exact HB.out)) hb); clear BK103; clear HB; have HO111 := n0_; have BK103 := n1_; have HB := n2_; clear n0_ n1_ n2_; clear hb ho15))
          go_loopg [0, 5] k (fun kq v0 v5 w' => ∃ (x0_1 : Int) (x4_1 : List Int) (x5_1 : Int), v0 = .int .i32 x0_1 ∧ v5 = .int .i64 x5_1 ∧ Aside0 (utf8_Set.l0 kq x0_1 t105 x4_1 x5_1 = some (r1, r2, r3, r4, r5, r6)) ∧ Aside0 (kq ≤ k) ∧ Aside0 (Kd.R (Kd.int .u8) 5 w' w.heap.size (fun _ => True) v110 x4_1) ∧ Aside0 (w'.heap[gb103]? = some (.cells #[.int .i64 0, .string (⟨#[]⟩ : ByteArray), .int .i64 0, .int .i64 0, .int .u32 0, .int .i32 0] 27 (0, 0))) ∧ Aside0 (Below w.heap.size w w'))
          case atStart => exact ⟨(a0), (y109), (wrap64 (t105 - 1)), (by first | rfl | (simp; done) | (simp [*]; done)), (by first | rfl | (simp; done) | (simp [*]; done)), H', ⟨Nat.le_refl _⟩, ⟨by (with_reducible repeat (first | apply Kd.R_alloc | apply Kd.R_drewN | apply Kd.R_drew)); exact HO111.out⟩, ⟨by (with_reducible repeat (first | refine blk_drewN ?_ _ | refine blk_drew ?_ | refine blk_alloc ?_ _)); exact BK103.out⟩, ⟨by repeat (first | (with_reducible first | exact HB.out | apply below_alloc | apply pw_below_drewN | apply below_drew1 | refine below_set ?_ GE103.out) | exact HB.out)⟩⟩
          case round =>
            clear H'
            try clear c1
            try clear c2
            try clear p2
            try clear c3
            try clear c5
            try clear c5b0
            try clear c5b1
            try clear p6
            try clear hcv9
            try clear c11
            try clear c11b0
            try clear c11b1
            try clear c12
            try clear c12b0
            try clear c12b1
            try clear hcz10_0
            try clear hcz10_1
            try clear hcz10_2
            try clear hcz10_3
            try clear hcz10_4
            try clear hcz10_5
            try clear hfz10_0
            try clear hfz10_1
            try clear hfz10_2
            try clear hfz10_3
            try clear hfz10_4
            try clear hfz10_5
            obtain ⟨x0_1, x4_1, x5_1, rfl, rfl, HA, HK1, HO_4, BK103, HB⟩ := hrel
            cases gk with
            | zero => exact absurd HA.out (by simp [utf8_Set.l0])
            | succ k1 =>
              have H := HA.out
              clear HA
              simp only [utf8_Set.l0] at H
              by_cases c16 : x5_1 > 0
              · rw [if_pos c16] at H
                have c16b0 : decide (0 < x5_1) = true := decide_eq_true c16
                clear c16
                by_cases c17 : 0 ≤ x5_1
                · rw [if_pos c17] at H
                  have c17b0 : decide (0 ≤ x5_1) = true := decide_eq_true c17
                  clear c17
                  by_cases c18 : x5_1 < (x4_1.length : Int)
                  · rw [if_pos c18] at H
                    have c18b0 : decide (x5_1 < (x4_1.length : Int)) = true := decide_eq_true c18
                    clear c18
                    obtain ⟨y112, hy112⟩ : ∃ y_ : List Int, y_ = (x4_1.set (x5_1 : Int).toNat (Go.bits .or .u8 128 ((Go.bits .and .i32 x0_1 63) % 256))) := ⟨_, rfl⟩
                    replace H : (utf8_Set.l0 k1 (x0_1 / 64) t105 y112 (wrap64 (x5_1 - 1))) = some (r1, r2, r3, r4, r5, r6) := by first | (rw [hy112]; with_reducible exact H) | (have H2_ := (Option.bind_some _ _).symm.trans H; rw [hy112]; with_reducible exact H2_) | (have H2_ := (Option.bind_some _ _).symm.trans H; with_reducible exact H2_) | with_reducible exact H | (rw [hy112]; exact H) | exact H
                    have Ny112 := Aside0.mk hy112
                    clear hy112
                    have H' := Aside0.mk H
                    clear H
                    have p19 : 0 ≤ (x5_1 : Int) := of_decide_eq_true (by first | (with_reducible assumption) | assumption)
                    have q19 : (x5_1 : Int) < ((x4_1.length : Int) : Int) := of_decide_eq_true (by first | (with_reducible assumption) | assumption)
                    obtain ⟨go19, co19, eo19, gb19, gl19, cl19, HG19⟩ := Kd.R_form HO_4.out (by omega)
                    (first | cases eo19 | (injection eo19 with ea_ en_ ec_; (first | subst ea_ | (injection ea_ with ea_; subst ea_)); subst ec_; clear en_))
                    have GB19 := Aside0.mk gb19
                    have GG19 := Aside0.mk HG19
                    clear gb19 gl19 HG19
                    obtain ⟨hx19_0, hf19_0⟩ := Kd.R_celln 0 HO_4.out (x5_1 : Int) p19 q19
                    replace p19 := eq_true p19
                    replace q19 := eq_true q19
                    have HP20 := Kd.R_putg HO_4.out (x5_1 : Int) (Go.bits .or .u8 128 ((Go.bits .and .i32 x0_1 63) % 256))
                    go_wp2_with (first | ((with_reducible refine gate_store (t := 5) (p := 33) rfl ?_); refine store_event (t := 5) (p := 33) (v := ?vo_w21) (w1 := (wr.setCell ⟨go19, (x5_1 : Int).toNat, none⟩ (.int .u8 (Go.bits .or .u8 128 ((Go.bits .and .i32 x0_1 63) % 256))))) ?hg ?ho ?hn ?hr ?_; (case ho => rfl); (case hg => rfl); (case hn => rfl); (case hr => first | (go_simp; done) | (go_simp; rfl)); intro w21 hw; have hg : wr.grownBy w21 (some go19) := (by rw [hw]; exact HP20.2); have hp_ : Kd.R (Kd.int .u8) 5 w21 w.heap.size (fun _ => True) (.slice (some ⟨go19, 0, none⟩) x4_1.length co19) y112 := (by rw [hw, Ny112.out]; exact HP20.1); clear HP20; have n0_ := Aside0.mk (hp_); have n1_ := Aside0.mk (blk_grown (g := gb103) (o := .cells #[.int .i64 0, .string (⟨#[]⟩ : ByteArray), .int .i64 0, .int .i64 0, .int .u32 0, .int .i32 0] 27 (0, 0)) (by (with_reducible repeat (first | refine blk_drewN ?_ _ | refine blk_drew ?_ | refine blk_alloc ?_ _)); exact BK103.out) hg (Kd.R_ne HO_4.out BK103.out (by decide))); have n2_ := Aside0.mk ((by rw [hw]; exact below_set (HB.out) GB19.out : Below w.heap.size w w21)); clear HO_4; clear BK103; clear HB; have HO_4 := n0_; have BK103 := n1_; have HB := n2_; clear n0_ n1_ n2_; clear hg hw hp_))
                    go_roundg k1
                    case measure => have := HK1.out; omega
                    case rel => exact ⟨(x0_1 / 64), (y112), (wrap64 (x5_1 - 1)), (by first | rfl | (simp; done) | (simp [*]; done)), (by first | rfl | (simp; done) | (simp [*]; done)), H', ⟨by have := HK1.out; omega⟩, ⟨by (with_reducible repeat (first | apply Kd.R_alloc | apply Kd.R_drewN | apply Kd.R_drew)); exact HO_4.out⟩, ⟨by (with_reducible repeat (first | refine blk_drewN ?_ _ | refine blk_drew ?_ | refine blk_alloc ?_ _)); exact BK103.out⟩, ⟨by repeat (first | (with_reducible first | exact HB.out | apply below_alloc | apply pw_below_drewN | apply below_drew1 | refine below_set ?_ GE103.out) | exact HB.out)⟩⟩
                  · rw [if_neg c18] at H
                    exact absurd H (by simp)
                · rw [if_neg c17] at H
                  exact absurd H (by simp)
              · rw [if_neg c16] at H
                have c16b0 : decide (0 < x5_1) = false := decide_eq_false c16
                clear c16
                obtain ⟨ji22, hji22⟩ : ∃ j_ : Int, (wrap64 (8 - t105)) = j_ := ⟨_, rfl⟩
                replace H : (if 0 ≤ (ji22) then (if 0 < (x4_1.length : Int) then (some (0, strOfNums (x4_1.set (0 : Int).toNat (Go.bits .or .u8 (shl .u8 255 (ji22)) ((x0_1) % 256))), 0, 0, 0, 0)) else (none)) else (none)) = some (r1, r2, r3, r4, r5, r6) := by first | (rw [hji22] at H; exact H) | (simp only [hji22] at H ⊢; exact H)
                have hji22w : (IntKind.i64.wrap (8 - t105)) = ji22 := (i64_w _).trans hji22
                by_cases c23 : 0 ≤ (ji22)
                · rw [if_pos c23] at H
                  have c23b0 := eq_true c23
                  have c23b1 : decide (0 ≤ (ji22)) = true := decide_eq_true c23
                  clear c23
                  obtain ⟨ji24, hji24⟩ : ∃ j_ : Int, (shl .u8 255 (ji22)) = j_ := ⟨_, rfl⟩
                  replace H : (if 0 < (x4_1.length : Int) then (some (0, strOfNums (x4_1.set (0 : Int).toNat (Go.bits .or .u8 (ji24) ((x0_1) % 256))), 0, 0, 0, 0)) else (none)) = some (r1, r2, r3, r4, r5, r6) := by first | (rw [hji24] at H; exact H) | (simp only [hji24] at H ⊢; exact H)
                  have hji24_ : (IntKind.u8.wrap (255 * 2 ^ min (ji22).toNat 8)) = ji24 := hji24
                  have hji24z : (ji22) ≤ 8 → (IntKind.u8.wrap (255 * 2 ^ (ji22).toNat)) = ji24 := shl_small hji24
                  by_cases c25 : 0 < (x4_1.length : Int)
                  · rw [if_pos c25] at H
                    have c25b0 : decide (0 < (x4_1.length : Int)) = true := decide_eq_true c25
                    have c25b1 : decide (0 < x4_1.length) = true := decide_eq_true (by omega)
                    clear c25
                    obtain ⟨y113, hy113⟩ : ∃ y_ : List Int, y_ = (x4_1.set (0 : Int).toNat (Go.bits .or .u8 (ji24) ((x0_1) % 256))) := ⟨_, rfl⟩
                    replace H : (some (0, strOfNums y113, 0, 0, 0, 0)) = some (r1, r2, r3, r4, r5, r6) := by first | (rw [hy113]; with_reducible exact H) | (have H2_ := (Option.bind_some _ _).symm.trans H; rw [hy113]; with_reducible exact H2_) | (have H2_ := (Option.bind_some _ _).symm.trans H; with_reducible exact H2_) | with_reducible exact H | (rw [hy113]; exact H) | exact H
                    have Ny113 := Aside0.mk hy113
                    clear hy113
                    simp only [Option.some.injEq, Prod.mk.injEq] at H
                    obtain ⟨rfl, rfl, rfl, rfl, rfl, rfl⟩ := H
                    have p26 : 0 ≤ (0 : Int) := (by omega)
                    have q26 : (0 : Int) < ((x4_1.length : Int) : Int) := of_decide_eq_true (by first | (with_reducible assumption) | assumption)
                    have qi26 : (0 < x4_1.length) = True := eq_true (by omega)
                    obtain ⟨go26, co26, eo26, gb26, gl26, cl26, HG26⟩ := Kd.R_form HO_4.out (by omega)
                    (first | cases eo26 | (injection eo26 with ea_ en_ ec_; (first | subst ea_ | (injection ea_ with ea_; subst ea_)); subst ec_; clear en_))
                    have GB26 := Aside0.mk gb26
                    have GG26 := Aside0.mk HG26
                    clear gb26 gl26 HG26
                    obtain ⟨hx26_0, hf26_0⟩ := Kd.R_celln 0 HO_4.out (0 : Int) p26 q26
                    (try rw [show ((0 : Int)).toNat = 0 from rfl] at hx26_0)
                    (try simp only [Nat.reduceMul, Nat.zero_mul, Nat.zero_add, Nat.reduceAdd] at hx26_0)
                    (try rw [show ((0 : Int)).toNat = 0 from rfl] at hf26_0)
                    (try simp only [Nat.reduceMul, Nat.zero_mul, Nat.zero_add, Nat.reduceAdd] at hf26_0)
                    replace p26 := eq_true p26
                    replace q26 := eq_true q26
                    have HP27 := Kd.R_putg HO_4.out (0 : Int) (Go.bits .or .u8 (ji24) ((x0_1) % 256))
                    go_wp2_with (first | ((with_reducible refine gate_store (t := 5) (p := 43) rfl ?_); refine store_event (t := 5) (p := 43) (v := ?vo_w28) (w1 := (wr.setCell ⟨go26, (0 : Int).toNat, none⟩ (.int .u8 (Go.bits .or .u8 (ji24) ((x0_1) % 256))))) ?hg ?ho ?hn ?hr ?_; (case ho => rfl); (case hg => rfl); (case hn => rfl); (case hr => first | (go_simp; done) | (go_simp; rfl)); intro w28 hw; have hg : wr.grownBy w28 (some go26) := (by rw [hw]; exact HP27.2); have hp_ : Kd.R (Kd.int .u8) 5 w28 w.heap.size (fun _ => True) (.slice (some ⟨go26, 0, none⟩) x4_1.length co26) y113 := (by rw [hw, Ny113.out]; exact HP27.1); clear HP27; have n0_ := Aside0.mk (hp_); have n1_ := Aside0.mk (blk_grown (g := gb103) (o := .cells #[.int .i64 0, .string (⟨#[]⟩ : ByteArray), .int .i64 0, .int .i64 0, .int .u32 0, .int .i32 0] 27 (0, 0)) (by (with_reducible repeat (first | refine blk_drewN ?_ _ | refine blk_drew ?_ | refine blk_alloc ?_ _)); exact BK103.out) hg (Kd.R_ne HO_4.out BK103.out (by decide))); have n2_ := Aside0.mk ((by rw [hw]; exact below_set (HB.out) GB26.out : Below w.heap.size w w28)); clear HO_4; clear BK103; clear HB; have HO_4 := n0_; have BK103 := n1_; have HB := n2_; clear n0_ n1_ n2_; clear hg hw hp_; have hcv29 := own_string (P := Try.prog) Try.underlying30 Try.underlying5 Try.underlying9 (Kd.own_of_R HO_4.out); have hcz30_0 : w28.cell? ⟨gb103, 0, none⟩ = some (.int .i64 0) := (blk_cell BK103.out 0).trans rfl; have hcz30_1 : w28.cell? ⟨gb103, 1, none⟩ = some (.string (⟨#[]⟩ : ByteArray)) := (blk_cell BK103.out 1).trans rfl; have hcz30_2 : w28.cell? ⟨gb103, 2, none⟩ = some (.int .i64 0) := (blk_cell BK103.out 2).trans rfl; have hcz30_3 : w28.cell? ⟨gb103, 3, none⟩ = some (.int .i64 0) := (blk_cell BK103.out 3).trans rfl; have hcz30_4 : w28.cell? ⟨gb103, 4, none⟩ = some (.int .u32 0) := (blk_cell BK103.out 4).trans rfl; have hcz30_5 : w28.cell? ⟨gb103, 5, none⟩ = some (.int .i32 0) := (blk_cell BK103.out 5).trans rfl; have hfz30_0 := blk_frozen BK103.out 0; have hfz30_1 := blk_frozen BK103.out 1; have hfz30_2 := blk_frozen BK103.out 2; have hfz30_3 := blk_frozen BK103.out 3; have hfz30_4 := blk_frozen BK103.out 4; have hfz30_5 := blk_frozen BK103.out 5))
                    refine bodyPost_ret (results_cell_row rfl _ _ gb103 27 #[.int .i64 0, .string (strOfNums y113), .int .i64 0, .int .i64 0, .int .u32 0, .int .i32 0] (0, 0) _ rfl (by (with_reducible repeat (first | refine blk_drewN ?_ _ | refine blk_drew ?_ | refine blk_alloc ?_ _)); refine blk_put (cs := #[.int .i64 0, .string (strOfNums y113), .int .i64 0, .int .i64 0, .int .u32 0, .int .i32 0]) ?_ 5 _ rfl; (with_reducible repeat (first | refine blk_drewN ?_ _ | refine blk_drew ?_ | refine blk_alloc ?_ _)); refine blk_put (cs := #[.int .i64 0, .string (strOfNums y113), .int .i64 0, .int .i64 0, .int .u32 0, .int .i32 0]) ?_ 4 _ rfl; (with_reducible repeat (first | refine blk_drewN ?_ _ | refine blk_drew ?_ | refine blk_alloc ?_ _)); refine blk_put (cs := #[.int .i64 0, .string (strOfNums y113), .int .i64 0, .int .i64 0, .int .u32 0, .int .i32 0]) ?_ 3 _ rfl; (with_reducible repeat (first | refine blk_drewN ?_ _ | refine blk_drew ?_ | refine blk_alloc ?_ _)); refine blk_put (cs := #[.int .i64 0, .string (strOfNums y113), .int .i64 0, .int .i64 0, .int .u32 0, .int .i32 0]) ?_ 2 _ rfl; (with_reducible repeat (first | refine blk_drewN ?_ _ | refine blk_drew ?_ | refine blk_alloc ?_ _)); refine blk_put (cs := #[.int .i64 0, .string (⟨#[]⟩ : ByteArray), .int .i64 0, .int .i64 0, .int .u32 0, .int .i32 0]) ?_ 1 _ rfl; (with_reducible repeat (first | refine blk_drewN ?_ _ | refine blk_drew ?_ | refine blk_alloc ?_ _)); refine blk_put (cs := #[.int .i64 0, .string (⟨#[]⟩ : ByteArray), .int .i64 0, .int .i64 0, .int .u32 0, .int .i32 0]) ?_ 0 _ rfl; (with_reducible repeat (first | refine blk_drewN ?_ _ | refine blk_drew ?_ | refine blk_alloc ?_ _)); exact BK103.out) Try.underlying27 rfl (by kernel_rfl)) rfl ?_
                    exact ⟨by first | rfl | (simp [errW_none, errW_some] <;> rfl) | (simp only [← hji22, ← hji24]; first | rfl | (simp [errW_none, errW_some] <;> rfl)) | (simp [*, errW_none, errW_some] <;> rfl), by repeat (first | (with_reducible first | exact HB.out | apply below_alloc | apply pw_below_drewN | apply below_drew1 | refine below_set ?_ GE103.out) | exact HB.out)⟩
                  · rw [if_neg c25] at H
                    exact absurd H (by simp)
                · rw [if_neg c23] at H
                  exact absurd H (by simp)
        · rw [if_neg c12] at H
          exact absurd H (by simp)
      · rw [if_neg c11] at H
        exact absurd H (by simp)
  · replace c3 := Bool.eq_false_iff.mpr c3
    subst c3
    have H1 : (some (11, (⟨#[]⟩ : ByteArray), 0, 0, 0, 0)) = some (r1, r2, r3, r4, r5, r6) := by rw [if_neg (show ¬ (false = true) by decide)] at H; exact H
    clear H
    have H := H1
    clear H1
    simp only [Option.some.injEq, Prod.mk.injEq] at H
    obtain ⟨rfl, rfl, rfl, rfl, rfl, rfl⟩ := H
    go_enter Try.func11, Try.ntmps11
    go_wp2_with (first | ((with_reducible refine gate_dst (N := 2) rfl ?_); refine box_event ?hg (N := 2) ?hd (cs := #[.int .i64 0, .string (⟨#[]⟩ : ByteArray), .int .i64 0, .int .i64 0, .int .u32 0, .int .i32 0]) (t := 27) ?hr ?_; (case hd => rfl); (case hg => rfl); (case hr => first | (go_simp; done) | (go_simp; rfl)); intro gb103 hg w31 hbox hb; have n0_ := Aside0.mk (below_step (by repeat (first | (with_reducible first | exact HB.out | apply below_alloc | apply pw_below_drewN | apply below_drew1) | exact HB.out)) hb); have n1_ := Aside0.mk (hbox); have n2_ := Aside0.mk ((by rw [hg]; exact (below_size (by repeat (first | (with_reducible first | exact HB.out | apply below_alloc | apply pw_below_drewN | apply below_drew1) | exact HB.out))) : w.heap.size ≤ gb103)); have n3_ := Aside0.mk ((by rw [hg]; exact (below_size (by repeat (first | (with_reducible first | exact HB.out | apply below_alloc | apply pw_below_drewN | apply below_drew1) | exact HB.out))) : w.heap.size ≤ gb103)); clear HB; have HB := n0_; have BK103 := n1_; have GW103 := n2_; have GE103 := n3_; clear n0_ n1_ n2_ n3_; clear hb hbox hg) | ((with_reducible refine gate_callee (f := 21) rfl ?_); refine goesL_ (some 7) rfl rfl Try.func21 (by kernel_rfl) rfl #[.int .i32 a0] rfl (by (try simp only [List.map_toArray, List.map_cons, List.map_nil]); first | done | rfl | (simp only [List.length_drop, List.length_take]; rfl)) ?_; (with_reducible refine (ucs_Scalar.calls a0 false _ A2.out).mono ?_); rintro e w' ⟨rfl, ⟨nd, rfl⟩⟩; refine ⟨_, rfl, ?_⟩; (try (rw [drewN_self w31]; generalize hq_ : World.drewN w31 _ = w31; have n0_ : Aside0 (w31.heap[gb103]? = some (.cells #[.int .i64 0, .string (⟨#[]⟩ : ByteArray), .int .i64 0, .int .i64 0, .int .u32 0, .int .i32 0] 27 (0, 0))) := ⟨by rw [← hq_]; exact (by (with_reducible repeat (first | refine blk_drewN ?_ _ | refine blk_drew ?_ | refine blk_alloc ?_ _)); exact BK103.out)⟩; have n1_ : Aside0 (Below w.heap.size w w31) := ⟨by rw [← hq_]; exact (by repeat (first | (with_reducible first | exact HB.out | apply below_alloc | apply pw_below_drewN | apply below_drew1 | refine below_set ?_ GE103.out) | exact HB.out))⟩; clear BK103 HB hq_; have BK103 := n0_; have HB := n1_; clear n0_ n1_)); have hcz32_0 : w31.cell? ⟨gb103, 0, none⟩ = some (.int .i64 0) := (blk_cell BK103.out 0).trans rfl; have hcz32_1 : w31.cell? ⟨gb103, 1, none⟩ = some (.string (⟨#[]⟩ : ByteArray)) := (blk_cell BK103.out 1).trans rfl; have hcz32_2 : w31.cell? ⟨gb103, 2, none⟩ = some (.int .i64 0) := (blk_cell BK103.out 2).trans rfl; have hcz32_3 : w31.cell? ⟨gb103, 3, none⟩ = some (.int .i64 0) := (blk_cell BK103.out 3).trans rfl; have hcz32_4 : w31.cell? ⟨gb103, 4, none⟩ = some (.int .u32 0) := (blk_cell BK103.out 4).trans rfl; have hcz32_5 : w31.cell? ⟨gb103, 5, none⟩ = some (.int .i32 0) := (blk_cell BK103.out 5).trans rfl; have hfz32_0 := blk_frozen BK103.out 0; have hfz32_1 := blk_frozen BK103.out 1; have hfz32_2 := blk_frozen BK103.out 2; have hfz32_3 := blk_frozen BK103.out 3; have hfz32_4 := blk_frozen BK103.out 4; have hfz32_5 := blk_frozen BK103.out 5))
    refine bodyPost_ret (results_cell_row rfl _ _ gb103 27 #[.int .i64 11, .string (⟨#[]⟩ : ByteArray), .int .i64 0, .int .i64 0, .int .u32 0, .int .i32 0] (0, 0) _ rfl (by (with_reducible repeat (first | refine blk_drewN ?_ _ | refine blk_drew ?_ | refine blk_alloc ?_ _)); refine blk_put (cs := #[.int .i64 11, .string (⟨#[]⟩ : ByteArray), .int .i64 0, .int .i64 0, .int .u32 0, .int .i32 0]) ?_ 5 _ rfl; (with_reducible repeat (first | refine blk_drewN ?_ _ | refine blk_drew ?_ | refine blk_alloc ?_ _)); refine blk_put (cs := #[.int .i64 11, .string (⟨#[]⟩ : ByteArray), .int .i64 0, .int .i64 0, .int .u32 0, .int .i32 0]) ?_ 4 _ rfl; (with_reducible repeat (first | refine blk_drewN ?_ _ | refine blk_drew ?_ | refine blk_alloc ?_ _)); refine blk_put (cs := #[.int .i64 11, .string (⟨#[]⟩ : ByteArray), .int .i64 0, .int .i64 0, .int .u32 0, .int .i32 0]) ?_ 3 _ rfl; (with_reducible repeat (first | refine blk_drewN ?_ _ | refine blk_drew ?_ | refine blk_alloc ?_ _)); refine blk_put (cs := #[.int .i64 11, .string (⟨#[]⟩ : ByteArray), .int .i64 0, .int .i64 0, .int .u32 0, .int .i32 0]) ?_ 2 _ rfl; (with_reducible repeat (first | refine blk_drewN ?_ _ | refine blk_drew ?_ | refine blk_alloc ?_ _)); refine blk_put (cs := #[.int .i64 11, .string (⟨#[]⟩ : ByteArray), .int .i64 0, .int .i64 0, .int .u32 0, .int .i32 0]) ?_ 1 _ rfl; (with_reducible repeat (first | refine blk_drewN ?_ _ | refine blk_drew ?_ | refine blk_alloc ?_ _)); refine blk_put (cs := #[.int .i64 0, .string (⟨#[]⟩ : ByteArray), .int .i64 0, .int .i64 0, .int .u32 0, .int .i32 0]) ?_ 0 _ rfl; (with_reducible repeat (first | refine blk_drewN ?_ _ | refine blk_drew ?_ | refine blk_alloc ?_ _)); exact BK103.out) Try.underlying27 rfl (by kernel_rfl)) rfl ?_
    exact ⟨by first | rfl | (simp [errW_none, errW_some] <;> rfl) | (simp [*, errW_none, errW_some] <;> rfl), by repeat (first | (with_reducible first | exact HB.out | apply below_alloc | apply pw_below_drewN | apply below_drew1 | refine below_set ?_ GE103.out) | exact HB.out)⟩

/-! ### utf8_wants: function 24 -/
def utf8_wants.j0 : Nat → Int → Bool → Option (Int)
  | 0, _, _ => none
  | k + 1, x0, x6 => if x6 = true then (some 0) else (if x0 < 224 then (some 2) else (if x0 < 240 then (some 3) else (some 4)))
def utf8_wants.f (k : Nat) (a0 : Int) : Option (Int) := if a0 < 128 then (some 1) else (if a0 < 194 then (utf8_wants.j0 k a0 true) else (utf8_wants.j0 k a0 (decide (a0 > 244))))
theorem utf8_wants.mono_l : ∀ k, (∀ y0 y1, LeO (utf8_wants.j0 k y0 y1) (utf8_wants.j0 (k + 1) y0 y1))
  | 0 => fun _ _ r h => by simp [utf8_wants.j0] at h
  | k + 1 => by
    have ih0 := utf8_wants.mono_l k
    · intro y0 y1
      unfold utf8_wants.j0
      repeat' first
      | (with_reducible exact ih0 _ _)
      | (with_reducible exact LeO.refl _)
      | (with_reducible exact LeO.none _)
      | (with_reducible refine LeO.ite ?_ ?_)
      | (with_reducible refine LeO.bind ?_ (fun _ => ?_))
      | exact ih0 _ _
      | exact LeO.none _
      | refine LeO.ite ?_ ?_
      | refine LeO.bind ?_ (fun _ => ?_)
theorem utf8_wants.mono : ∀ a0 k, LeO (utf8_wants.f k a0) (utf8_wants.f (k + 1) a0) := by
  intro a0 k
  have ih0 := utf8_wants.mono_l k
  unfold utf8_wants.f
  repeat' first
      | (with_reducible exact ih0 _ _)
      | (with_reducible exact LeO.refl _)
      | (with_reducible exact LeO.none _)
      | (with_reducible refine LeO.ite ?_ ?_)
      | (with_reducible refine LeO.bind ?_ (fun _ => ?_))
      | exact ih0 _ _
      | exact LeO.none _
      | refine LeO.ite ?_ ?_
      | refine LeO.bind ?_ (fun _ => ?_)
set_option maxHeartbeats 8000000 in
set_option maxRecDepth 100000 in
theorem utf8_wants.calls (k : Nat) (a0 : Int) (r : Int) (w : World) (h : utf8_wants.f k a0 = some r) :
    Calls Try.prog 24 #[.int .u8 a0] w fun e w' => e = .returned (.int .i64 r) ∧ Drawn0 w w' := by
  have H : (if a0 < 128 then (some 1) else (if a0 < 194 then (utf8_wants.j0 k a0 true) else (utf8_wants.j0 k a0 (decide (a0 > 244))))) = some r := h
  clear h
  by_cases c2 : a0 < 128
  · rw [if_pos c2] at H
    have c2b0 : decide (a0 < 128) = true := decide_eq_true c2
    clear c2
    obtain rfl := Option.some.inj H
    go_enter Try.func24, Try.ntmps24
    go_wp2
    go_ret
    exact ⟨by first | rfl | (simp; done) | (simp [*]; done), by repeat (first | exact Drawn0.refl _ | apply Drawn0.step)⟩
  · rw [if_neg c2] at H
    have c2b0 : decide (a0 < 128) = false := decide_eq_false c2
    clear c2
    have HC3 := Aside0.mk H
    clear H
    go_enter Try.func24, Try.ntmps24
    go_upto_region 3 with (fail)
    go_cut [6] (fun v6 wc => ∃ (kq : Nat) (x6_2 : Bool), v6 = .bool x6_2 ∧ Aside0 (utf8_wants.j0 kq a0 x6_2 = some r) ∧ Aside0 (kq ≤ k) ∧ Drawn0 w wc)
    case first =>
      have H := HC3.out
      clear HC3
      by_cases c4 : a0 < 194
      · rw [if_pos c4] at H
        have c4b0 : decide (a0 < 194) = true := decide_eq_true c4
        clear c4
        (first | rw [c4b0] | (simp only [i64_w, i32_w]; rw [c4b0]) | skip)
        have H' := Aside0.mk H
        clear H
        go_wp2
        go_meet
        case rel => exact ⟨_, (true), (by first | rfl | (simp; done) | (simp [*]; done)), H', ⟨by first | omega | exact Nat.le_refl _⟩, by repeat (first | exact Drawn0.refl _ | apply Drawn0.step)⟩
      · rw [if_neg c4] at H
        have c4b0 : decide (a0 < 194) = false := decide_eq_false c4
        clear c4
        (first | rw [c4b0] | (simp only [i64_w, i32_w]; rw [c4b0]) | skip)
        have H' := Aside0.mk H
        clear H
        go_wp2
        go_meet
        case rel => exact ⟨_, (decide (a0 > 244)), (by first | rfl | (simp; done) | (simp [*]; done)), H', ⟨by first | omega | exact Nat.le_refl _⟩, by repeat (first | exact Drawn0.refl _ | apply Drawn0.step)⟩
    case rest =>
      clear HC3
      try clear c2
      try clear c2b0
      try clear p2
      try clear c4
      try clear c4b0
      obtain ⟨kq, x6_2, rfl, HA, HJ2, ⟨mc2, rfl⟩⟩ := hcut
      cases kq with
      | zero => exact absurd HA.out (by simp [utf8_wants.j0])
      | succ kj2 =>
        have H := HA.out
        clear HA
        simp only [utf8_wants.j0] at H
        by_cases c5 : x6_2 = true
        · subst c5
          have H1 : (some 0) = some r := by rw [if_pos rfl] at H; exact H
          clear H
          have H := H1
          clear H1
          obtain rfl := Option.some.inj H
          go_wp2
          go_ret
          exact ⟨by first | rfl | (simp; done) | (simp [*]; done), by repeat (first | exact Drawn0.refl _ | apply Drawn0.step)⟩
        · replace c5 := Bool.eq_false_iff.mpr c5
          subst c5
          have H1 : (if a0 < 224 then (some 2) else (if a0 < 240 then (some 3) else (some 4))) = some r := by rw [if_neg (show ¬ (false = true) by decide)] at H; exact H
          clear H
          have H := H1
          clear H1
          by_cases c6 : a0 < 224
          · rw [if_pos c6] at H
            have c6b0 : decide (a0 < 224) = true := decide_eq_true c6
            clear c6
            obtain rfl := Option.some.inj H
            go_wp2
            go_ret
            exact ⟨by first | rfl | (simp; done) | (simp [*]; done), by repeat (first | exact Drawn0.refl _ | apply Drawn0.step)⟩
          · rw [if_neg c6] at H
            have c6b0 : decide (a0 < 224) = false := decide_eq_false c6
            clear c6
            by_cases c7 : a0 < 240
            · rw [if_pos c7] at H
              have c7b0 : decide (a0 < 240) = true := decide_eq_true c7
              clear c7
              obtain rfl := Option.some.inj H
              go_wp2
              go_ret
              exact ⟨by first | rfl | (simp; done) | (simp [*]; done), by repeat (first | exact Drawn0.refl _ | apply Drawn0.step)⟩
            · rw [if_neg c7] at H
              have c7b0 : decide (a0 < 240) = false := decide_eq_false c7
              clear c7
              obtain rfl := Option.some.inj H
              go_wp2
              go_ret
              exact ⟨by first | rfl | (simp; done) | (simp [*]; done), by repeat (first | exact Drawn0.refl _ | apply Drawn0.step)⟩

/-! ### utf8_second: function 25 -/
def utf8_second.f (a0 : Int) (a1 : Int) : Option (Bool) := if a0 = 224 then (if a1 ≥ 160 then (some (decide (a1 ≤ 191))) else (some false)) else (if a0 = 237 then (if a1 ≥ 128 then (some (decide (a1 ≤ 159))) else (some false)) else (if a0 = 240 then (if a1 ≥ 144 then (some (decide (a1 ≤ 191))) else (some false)) else (if a0 = 244 then (if a1 ≥ 128 then (some (decide (a1 ≤ 143))) else (some false)) else (if a1 ≥ 128 then (some (decide (a1 ≤ 191))) else (some false)))))
set_option maxHeartbeats 8000000 in
set_option maxRecDepth 100000 in
theorem utf8_second.calls (a0 : Int) (a1 : Int) (r : Bool) (w : World) (h : utf8_second.f a0 a1 = some r) :
    Calls Try.prog 25 #[.int .u8 a0, .int .u8 a1] w fun e w' => e = .returned (.bool r) ∧ Drawn0 w w' := by
  have H : (if a0 = 224 then (if a1 ≥ 160 then (some (decide (a1 ≤ 191))) else (some false)) else (if a0 = 237 then (if a1 ≥ 128 then (some (decide (a1 ≤ 159))) else (some false)) else (if a0 = 240 then (if a1 ≥ 144 then (some (decide (a1 ≤ 191))) else (some false)) else (if a0 = 244 then (if a1 ≥ 128 then (some (decide (a1 ≤ 143))) else (some false)) else (if a1 ≥ 128 then (some (decide (a1 ≤ 191))) else (some false)))))) = some r := h
  clear h
  by_cases c3 : a0 = 224
  · rw [if_pos c3] at H
    have c3b0 : (a0 == 224) = true := beq_iff_eq.mpr c3
    have c3b1 : (a0 != 224) = false := bne_eq_false_iff_eq.mpr c3
    clear c3
    by_cases c4 : a1 ≥ 160
    · rw [if_pos c4] at H
      have c4b0 : decide (160 ≤ a1) = true := decide_eq_true c4
      clear c4
      obtain rfl := Option.some.inj H
      go_enter Try.func25, Try.ntmps25
      go_wp2
      go_ret
      exact ⟨by first | rfl | (simp; done) | (simp [*]; done), by repeat (first | exact Drawn0.refl _ | apply Drawn0.step)⟩
    · rw [if_neg c4] at H
      have c4b0 : decide (160 ≤ a1) = false := decide_eq_false c4
      clear c4
      obtain rfl := Option.some.inj H
      go_enter Try.func25, Try.ntmps25
      go_wp2
      go_ret
      exact ⟨by first | rfl | (simp; done) | (simp [*]; done), by repeat (first | exact Drawn0.refl _ | apply Drawn0.step)⟩
  · rw [if_neg c3] at H
    have c3b0 : (a0 == 224) = false := beq_eq_false_iff_ne.mpr c3
    have c3b1 : (a0 != 224) = true := bne_iff_ne.mpr c3
    by_cases c5 : a0 = 237
    · rw [if_pos c5] at H
      have c5b0 : (a0 == 237) = true := beq_iff_eq.mpr c5
      have c5b1 : (a0 != 237) = false := bne_eq_false_iff_eq.mpr c5
      clear c5
      by_cases c6 : a1 ≥ 128
      · rw [if_pos c6] at H
        have c6b0 : decide (128 ≤ a1) = true := decide_eq_true c6
        clear c6
        obtain rfl := Option.some.inj H
        go_enter Try.func25, Try.ntmps25
        go_wp2
        go_ret
        exact ⟨by first | rfl | (simp; done) | (simp [*]; done), by repeat (first | exact Drawn0.refl _ | apply Drawn0.step)⟩
      · rw [if_neg c6] at H
        have c6b0 : decide (128 ≤ a1) = false := decide_eq_false c6
        clear c6
        obtain rfl := Option.some.inj H
        go_enter Try.func25, Try.ntmps25
        go_wp2
        go_ret
        exact ⟨by first | rfl | (simp; done) | (simp [*]; done), by repeat (first | exact Drawn0.refl _ | apply Drawn0.step)⟩
    · rw [if_neg c5] at H
      have c5b0 : (a0 == 237) = false := beq_eq_false_iff_ne.mpr c5
      have c5b1 : (a0 != 237) = true := bne_iff_ne.mpr c5
      by_cases c7 : a0 = 240
      · rw [if_pos c7] at H
        have c7b0 : (a0 == 240) = true := beq_iff_eq.mpr c7
        have c7b1 : (a0 != 240) = false := bne_eq_false_iff_eq.mpr c7
        clear c7
        by_cases c8 : a1 ≥ 144
        · rw [if_pos c8] at H
          have c8b0 : decide (144 ≤ a1) = true := decide_eq_true c8
          clear c8
          obtain rfl := Option.some.inj H
          go_enter Try.func25, Try.ntmps25
          go_wp2
          go_ret
          exact ⟨by first | rfl | (simp; done) | (simp [*]; done), by repeat (first | exact Drawn0.refl _ | apply Drawn0.step)⟩
        · rw [if_neg c8] at H
          have c8b0 : decide (144 ≤ a1) = false := decide_eq_false c8
          clear c8
          obtain rfl := Option.some.inj H
          go_enter Try.func25, Try.ntmps25
          go_wp2
          go_ret
          exact ⟨by first | rfl | (simp; done) | (simp [*]; done), by repeat (first | exact Drawn0.refl _ | apply Drawn0.step)⟩
      · rw [if_neg c7] at H
        have c7b0 : (a0 == 240) = false := beq_eq_false_iff_ne.mpr c7
        have c7b1 : (a0 != 240) = true := bne_iff_ne.mpr c7
        by_cases c9 : a0 = 244
        · rw [if_pos c9] at H
          have c9b0 : (a0 == 244) = true := beq_iff_eq.mpr c9
          have c9b1 : (a0 != 244) = false := bne_eq_false_iff_eq.mpr c9
          clear c9
          by_cases c10 : a1 ≥ 128
          · rw [if_pos c10] at H
            have c10b0 : decide (128 ≤ a1) = true := decide_eq_true c10
            clear c10
            obtain rfl := Option.some.inj H
            go_enter Try.func25, Try.ntmps25
            go_wp2
            go_ret
            exact ⟨by first | rfl | (simp; done) | (simp [*]; done), by repeat (first | exact Drawn0.refl _ | apply Drawn0.step)⟩
          · rw [if_neg c10] at H
            have c10b0 : decide (128 ≤ a1) = false := decide_eq_false c10
            clear c10
            obtain rfl := Option.some.inj H
            go_enter Try.func25, Try.ntmps25
            go_wp2
            go_ret
            exact ⟨by first | rfl | (simp; done) | (simp [*]; done), by repeat (first | exact Drawn0.refl _ | apply Drawn0.step)⟩
        · rw [if_neg c9] at H
          have c9b0 : (a0 == 244) = false := beq_eq_false_iff_ne.mpr c9
          have c9b1 : (a0 != 244) = true := bne_iff_ne.mpr c9
          by_cases c11 : a1 ≥ 128
          · rw [if_pos c11] at H
            have c11b0 : decide (128 ≤ a1) = true := decide_eq_true c11
            clear c11
            obtain rfl := Option.some.inj H
            go_enter Try.func25, Try.ntmps25
            go_wp2
            go_ret
            exact ⟨by first | rfl | (simp; done) | (simp [*]; done), by repeat (first | exact Drawn0.refl _ | apply Drawn0.step)⟩
          · rw [if_neg c11] at H
            have c11b0 : decide (128 ≤ a1) = false := decide_eq_false c11
            clear c11
            obtain rfl := Option.some.inj H
            go_enter Try.func25, Try.ntmps25
            go_wp2
            go_ret
            exact ⟨by first | rfl | (simp; done) | (simp [*]; done), by repeat (first | exact Drawn0.refl _ | apply Drawn0.step)⟩

end Go.Proofs.Ytaogccmbdmheeaa.PUtf8Order
