/- ranges.Scalar: what it answers, and its walk: a binary search with a comparing function. -/
import Derived.Test.YtnapldildjnchaaPRangesSplitx0
import Derived.Lib.Hide
import Derived.Deep.RegionHeld3
import Derived.Outline
namespace Go.Proofs.Ytnapldildjnchaa.PRangesSplit
open Go.RowKit Go.Proofs.YtnapldildjnchaaW.PrintWords Go.Proofs.YtnapldildjnchaaW.PrintLast Go.Proofs.YtnapldildjnchaaW.PrintMore
set_option linter.unusedVariables false
/-- How a range stands to a code. -/
def cmpv (x : S44) (c : Int) : Int := if x.f0 ≤ c ∧ c ≤ x.f1 then 0 else if x.f0 < c then -1 else if c < x.f0 then 1 else 0
/-- The search: from lo to hi, k rounds at most. -/
def ranges_Scalar.l0 : Nat → List S44 → Int → Int → Int → Option (Int × Bool)
  | 0, _, _, _, _ => none
  | k + 1, l, c, lo, hi => if lo < hi then (if cmpv (rd_T44 l ((lo + hi) / 2)) c < 0 then ranges_Scalar.l0 k l c ((lo + hi) / 2 + 1) hi else ranges_Scalar.l0 k l c lo ((lo + hi) / 2))
    else if lo < (l.length : Int) then (if cmpv (rd_T44 l lo) c = 0 then some (wrap32 ((rd_T44 l lo).f2 + wrap32 (wrap64 (c - (rd_T44 l lo).f0))), true) else some (0, false)) else some (0, false)
def ranges_Scalar.f (k : Nat) (l0 : List S44) (a1 : Int) : Option (Int × Bool) := if l0.length ≤ 140737488355328 then ranges_Scalar.l0 k l0 a1 0 (l0.length : Int) else none
theorem ranges_Scalar.mono_l : ∀ k, (∀ y0 y1 y2 y3, LeO (ranges_Scalar.l0 k y0 y1 y2 y3) (ranges_Scalar.l0 (k + 1) y0 y1 y2 y3))
  | 0 => fun _ _ _ _ r h => by simp [ranges_Scalar.l0] at h
  | k + 1 => by
    have ih0 := ranges_Scalar.mono_l k
    intro y0 y1 y2 y3
    unfold ranges_Scalar.l0
    repeat' first
      | (with_reducible exact ih0 _ _ _ _)
      | (with_reducible exact LeO.refl _)
      | (with_reducible refine LeO.ite ?_ ?_)
theorem ranges_Scalar.mono : ∀ a0 a1 k, LeO (ranges_Scalar.f k a0 a1) (ranges_Scalar.f (k + 1) a0 a1) := by
  intro a0 a1 k
  unfold ranges_Scalar.f
  exact LeO.ite (ranges_Scalar.mono_l k _ _ _ _) (LeO.refl _)
theorem nanC (x : Int) (w : World) : Calls Try.prog 31 #[.int .i64 x] w fun e w' => e = .returned (.bool false) ∧ w = w' := by
  go_enter Try.func31, Try.ntmps31
  go_wp2_with fail
  go_ret
  exact ⟨rfl, rfl⟩
def cmpi (x y : Int) : Int := if x < y then -1 else if y < x then 1 else 0
theorem compareC (x y : Int) (w : World) : Calls Try.prog 27 #[.int .i64 x, .int .i64 y] w fun e w' => e = .returned (.int .i64 (cmpi x y)) ∧ w = w' := by
  rcases (show x < y ∨ (¬ x < y ∧ y < x) ∨ (¬ x < y ∧ ¬ y < x) by omega) with h | ⟨h, h2⟩ | ⟨h, h2⟩
  · rw [show cmpi x y = -1 from if_pos h]
    go_enter Try.func27, Try.ntmps27
    go_wp2_with (go_at_call 31; refine (nanC _ _).mono ?_; rintro e w' ⟨rfl, rfl⟩)
    go_ret
    exact ⟨rfl, rfl⟩
  · rw [show cmpi x y = 1 from (if_neg h).trans (if_pos h2)]
    go_enter Try.func27, Try.ntmps27
    go_wp2_with (go_at_call 31; refine (nanC _ _).mono ?_; rintro e w' ⟨rfl, rfl⟩)
    go_ret
    exact ⟨rfl, rfl⟩
  · rw [show cmpi x y = 0 from (if_neg h).trans (if_neg h2)]
    go_enter Try.func27, Try.ntmps27
    go_wp2_with (go_at_call 31; refine (nanC _ _).mono ?_; rintro e w' ⟨rfl, rfl⟩)
    go_ret
    exact ⟨rfl, rfl⟩
theorem cloC (x : S44) (c : Int) (w : World) : Calls Try.prog 26 #[.agg #[.int .i64 x.f0, .int .i64 x.f1, .int .i32 x.f2], .int .i64 c] w fun e w' => e = .returned (.int .i64 (cmpv x c)) ∧ Below w.heap.size w w' := by
  obtain ⟨f, t, a⟩ := x
  show Calls Try.prog 26 #[.agg #[.int .i64 f, .int .i64 t, .int .i32 a], .int .i64 c] w fun e w' => e = .returned (.int .i64 (cmpv ⟨f, t, a⟩ c)) ∧ Below w.heap.size w w'
  by_cases h1 : f ≤ c
  · by_cases h2 : c ≤ t
    · rw [show cmpv ⟨f, t, a⟩ c = 0 from if_pos ⟨h1, h2⟩]
      go_enter Try.func26, Try.ntmps26
      go_wp2_with fail
      go_ret
      exact ⟨rfl, below_alloc (Below.refl _ _) _⟩
    · rw [show cmpv ⟨f, t, a⟩ c = cmpi f c from if_neg fun h => h2 h.2]
      have h2' : decide (c ≤ t) = false := decide_eq_false h2
      go_enter Try.func26, Try.ntmps26
      go_wp2_with (go_at_call 27; refine (compareC _ _ _).mono ?_; rintro e w' ⟨rfl, rfl⟩)
      go_ret
      exact ⟨rfl, below_alloc (Below.refl _ _) _⟩
  · rw [show cmpv ⟨f, t, a⟩ c = cmpi f c from if_neg fun h => h1 h.1]
    go_enter Try.func26, Try.ntmps26
    go_wp2_with (go_at_call 27; refine (compareC _ _ _).mono ?_; rintro e w' ⟨rfl, rfl⟩)
    go_ret
    exact ⟨rfl, below_alloc (Below.refl _ _) _⟩
/-- Where the search has ended, and what is found there. -/
def SEnd (l : List S44) (c : Int) (r : Int × Bool) (w : World) (e : Ending) (w' : World) : Prop :=
  ∃ (lo : Nat) (ok : Bool), e = .returned (.tuple #[.int .i64 (lo : Int), .bool ok]) ∧ (ok = true → lo < l.length ∧ r = (wrap32 ((rd_T44 l (lo : Int)).f2 + wrap32 (wrap64 (c - (rd_T44 l (lo : Int)).f0))), true)) ∧ (ok = false → r = (0, false)) ∧ Below w.heap.size w w'
set_option maxHeartbeats 4000000 in
set_option maxRecDepth 100000 in
theorem searchC (A : Option Addr) (cap : Nat) (l : List S44) (c : Int) (w : World) (hC : Kd.C k44 w A l.length l) (hc : l.length ≤ cap) (k : Nat) (r : Int × Bool) (h : ranges_Scalar.l0 k l c 0 (l.length : Int) = some r) (hn : l.length ≤ 140737488355328) :
    Calls Try.prog 25 #[.slice A l.length cap, .int .i64 c, .func (.func 26) #[] #[]] w (SEnd l c r w) := by
  have HC := Lib.hid hC
  have H := Lib.hid h
  clear hC h
  go_enter Try.func25, Try.ntmps25
  go_wp2_with fail
  go_loopg [9, 10] k (fun kq v9 v10 w' => ∃ lo hi : Nat, v9 = .int .i64 (lo : Int) ∧ v10 = .int .i64 (hi : Int) ∧ lo ≤ hi ∧ hi ≤ l.length ∧ Hid (ranges_Scalar.l0 kq l c lo hi = some r) ∧ Hid (Below w.heap.size w w'))
  case atStart => exact ⟨0, l.length, rfl, rfl, Nat.zero_le _, Nat.le_refl _, H, Lib.hid (Below.refl _ _)⟩
  case round =>
    obtain ⟨lo, hi, rfl, rfl, hlh, hhl, HA, HB⟩ := hrel
    cases gk with
    | zero => exact absurd HA.out (by simp [ranges_Scalar.l0])
    | succ k1 =>
      have H2 := HA.out
      simp only [ranges_Scalar.l0] at H2
      by_cases hlt : lo < hi
      · rw [if_pos (by omega)] at H2
        have H3 := Lib.hid H2
        clear HA H2 H
        obtain ⟨m, hm⟩ : ∃ m : Nat, m = (lo + hi) / 2 := ⟨_, rfl⟩
        have hmi : ((lo : Int) + (hi : Int)) / 2 = (m : Int) := by omega
        have hml : m < l.length := by omega
        have H4 : Hid ((if cmpv (rd_T44 l (m : Int)) c < 0 then ranges_Scalar.l0 k1 l c ((m : Int) + 1) hi else ranges_Scalar.l0 k1 l c lo (m : Int)) = some r) := Lib.hid (by rw [← hmi]; exact H3.out)
        clear H3
        obtain ⟨ad, rfl, hx0, hx1, hx2⟩ := at_T44 (Kd.C_below HC.out HB.out) (m : Int) (by omega) (by omega)
        rw [Int.toNat_natCast] at hx0 hx1 hx2
        have HCL := Lib.hid (cloC (rd_T44 l (m : Int)) c)
        obtain ⟨v, hv⟩ : ∃ v, v = cmpv (rd_T44 l (m : Int)) c := ⟨_, rfl⟩
        rw [← hv] at H4 HCL
        clear hv
        generalize rd_T44 l (m : Int) = x at *
        obtain ⟨f, t, a⟩ := x
        have i0 : (0 : Int) ≤ (m : Int) := by omega
        have i1 : (m : Int) < (l.length : Int) := by omega
        have HMI := Lib.hid hmi
        clear hmi
        go_upto_region 5 with fail
        rw [HMI.out]
        have HM : Hid (m < hi ∧ lo ≤ m) := Lib.hid ⟨by omega, by omega⟩
        clear hm
        by_cases hv0 : v < 0
        · have H5 := H4.out
          rw [if_pos hv0] at H5
          have H6 := Lib.hid H5
          clear H4 H5
          go_wp2_with (go_at_call 26; refine (HCL.out _).mono ?_; rintro e w2 ⟨rfl, hb2⟩; have HB2 := Lib.hid (below_step HB.out hb2); clear hb2)
          go_roundg k1
          case rel => exact ⟨m + 1, hi, by go_num, rfl, by have := HM.out; omega, hhl, H6, HB2⟩
          case measure => omega
        · have H5 := H4.out
          rw [if_neg hv0] at H5
          have H6 := Lib.hid H5
          clear H4 H5
          go_wp2_with (go_at_call 26; refine (HCL.out _).mono ?_; rintro e w2 ⟨rfl, hb2⟩; have HB2 := Lib.hid (below_step HB.out hb2); clear hb2)
          go_roundg k1
          case rel => exact ⟨lo, m, rfl, rfl, by have := HM.out; omega, by omega, H6, HB2⟩
          case measure => omega
      · rw [if_neg (by omega)] at H2
        have H3 := Lib.hid H2
        clear HA H2 H
        by_cases hll : lo < l.length
        · have H4 := H3.out
          rw [if_pos (by omega)] at H4
          have H5 := Lib.hid H4
          clear H4 H3
          obtain ⟨ad, rfl, hx0, hx1, hx2⟩ := at_T44 (Kd.C_below HC.out HB.out) (lo : Int) (by omega) (by omega)
          rw [Int.toNat_natCast] at hx0 hx1 hx2
          have HCL := Lib.hid (cloC (rd_T44 l (lo : Int)) c)
          obtain ⟨v, hv⟩ : ∃ v, v = cmpv (rd_T44 l (lo : Int)) c := ⟨_, rfl⟩
          rw [← hv] at H5 HCL
          clear hv
          have HX : Hid (∃ x, x = rd_T44 l (lo : Int)) := Lib.hid ⟨_, rfl⟩
          obtain ⟨x, hx⟩ := HX.out
          rw [← hx] at hx0 hx1 hx2 HCL
          have HXX := Lib.hid hx
          clear hx HX
          obtain ⟨f, t, a⟩ := x
          have i0 : (0 : Int) ≤ (lo : Int) := by omega
          have i1 : (lo : Int) < (l.length : Int) := by omega
          go_wp2_with (go_at_call 26; refine (HCL.out _).mono ?_; rintro e w2 ⟨rfl, hb2⟩; have HB2 := Lib.hid (below_step HB.out hb2); clear hb2)
          by_cases hv0 : v = 0
          · subst hv0
            have H6 := H5.out
            rw [if_pos rfl, ← HXX.out] at H6
            have H7 := Lib.hid H6
            go_wp2_with fail
            go_ret2
            exact ⟨lo, true, rfl, fun _ => ⟨hll, by rw [← HXX.out]; exact (Option.some.inj H7.out).symm⟩, fun h => absurd h (by decide), HB2.out⟩
          · have H6 := H5.out
            rw [if_neg hv0] at H6
            have H7 := Lib.hid H6
            have hv1 : (v == 0) = false := beq_eq_false_iff_ne.mpr hv0
            clear H6
            go_wp2_with fail
            go_ret2
            exact ⟨lo, (v == 0), rfl, fun h => absurd h (by rw [hv1]; decide), fun _ => (Option.some.inj H7.out).symm, HB2.out⟩
        · have H4 := H3.out
          rw [if_neg (by omega)] at H4
          have H5 := Lib.hid H4
          clear H4 H3
          go_wp2_with fail
          go_ret2
          exact ⟨lo, false, rfl, fun h => absurd h (by decide), fun _ => (Option.some.inj H5.out).symm, HB.out⟩
set_option maxHeartbeats 4000000 in
set_option maxRecDepth 100000 in
theorem ranges_Scalar.calls (k : Nat) (A0 : Option Addr) (c0 : Nat) (l0 : List S44) (a1 : Int) (r1 : Int) (r2 : Bool) (w : World) (hr0 : Kd.C k44 w A0 l0.length l0) (hc0 : l0.length ≤ c0) (h : ranges_Scalar.f k l0 a1 = some (r1, r2)) :
    Calls Try.prog 16 #[.slice A0 l0.length c0, .int .i64 a1] w fun e w' => e = .returned (.tuple #[.int .i32 r1, .bool r2]) ∧ Below w.heap.size w w' := by
  unfold ranges_Scalar.f at h
  by_cases hn : l0.length ≤ 140737488355328
  · rw [if_pos hn] at h
    have HR := Lib.hid hr0
    have HC := Lib.hid hc0
    have H := Lib.hid h
    clear hr0 hc0 h
    go_enter Try.func16, Try.ntmps16
    go_wp2_with fail
    refine (searchC A0 c0 l0 a1 w HR.out HC.out k (r1, r2) H.out hn).mono ?_
    rintro e w2 ⟨lo, ok, rfl, h1, h2, hb⟩
    have HB := Lib.hid hb
    have H1 := Lib.hid h1
    have H2 := Lib.hid h2
    clear hb h1 h2
    cases ok
    · have h3 := H2.out rfl
      simp only [Prod.mk.injEq] at h3
      obtain ⟨rfl, rfl⟩ := h3
      go_wp2_with fail
      go_ret2
      exact ⟨rfl, HB.out⟩
    · obtain ⟨hlo, h3⟩ := H1.out rfl
      simp only [Prod.mk.injEq] at h3
      obtain ⟨h3, rfl⟩ := h3
      have H3 := Lib.hid h3
      clear h3
      obtain ⟨ad, rfl, hx0, hx1, hx2⟩ := at_T44 (Kd.C_below HR.out HB.out) (lo : Int) (by omega) (by omega)
      rw [Int.toNat_natCast] at hx0 hx1 hx2
      generalize rd_T44 l0 (lo : Int) = x at *
      obtain ⟨f, t, a⟩ := x
      have i0 : (0 : Int) ≤ (lo : Int) := by omega
      have i1 : (lo : Int) < (l0.length : Int) := by omega
      go_wp2_with fail
      go_quiet (fail)
      go_wp2_with fail
      go_ret2
      rw [H3.out]
      exact ⟨rfl, pw_below_drewN HB.out _⟩
  · rw [if_neg hn] at h
    cases h
end Go.Proofs.Ytnapldildjnchaa.PRangesSplit
