/- RangesOne, plainly: a table of one range. -/
import Derived.Test.YtnapldildjnchaaRaOne
import Derived.OpenShut
namespace Go.Proofs.Ytnapldildjnchaa.PRangesOne
open Go.RowKit Go.Proofs.YtnapldildjnchaaW.PrintWords Go.Proofs.YtnapldildjnchaaW.PrintLast Go.Proofs.YtnapldildjnchaaW.PrintMore
set_option linter.unusedVariables false
theorem works_f : dragomanlaw06_works.f 20 = some true := by decide +kernel
theorem scalar_one (x : S44) (hx : Rt x) (c : Int) (hc : -9223372036854775808 ≤ c ∧ c ≤ 9223372036854775807) (k : Nat) (hk : 3 ≤ k) : ranges_Scalar.f k [x] c = some (if x.f0 ≤ c ∧ c ≤ x.f1 then (x.f2 + (c - x.f0), true) else (0, false)) := by
  obtain ⟨k, rfl⟩ : ∃ m, k = m + 3 := ⟨k - 3, by omega⟩
  have e0 : rd_T44 [x] 0 = x := rfl
  have e1 : ((0 : Int) + (([x].length : Nat) : Int)) / 2 = 0 := by
    show ((0 : Int) + ((1 : Nat) : Int)) / 2 = 0
    decide
  unfold ranges_Scalar.f
  rw [if_pos (by show 1 ≤ _; omega)]
  rw [ranges_Scalar.l0, if_pos (by show (0 : Int) < ((1 : Nat) : Int); omega), e1, e0]
  obtain ⟨a0, a1, a2, a3, a4, a5⟩ := hx
  obtain ⟨b0, b1, _⟩ := a3
  obtain ⟨b2, b3, _⟩ := a4
  by_cases h1 : x.f0 ≤ c
  · by_cases h2 : c ≤ x.f1
    · have hv : cmpv x c = 0 := if_pos ⟨h1, h2⟩
      rw [hv, if_neg (by omega), ranges_Scalar.l0, if_neg (by omega), if_pos (by show (0 : Int) < ((1 : Nat) : Int); omega), e0, hv, if_pos rfl, if_pos ⟨h1, h2⟩]
      rw [w64 (c - x.f0) (by omega), w32 (c - x.f0) (by omega), w32 _ (by omega)]
    · have hv : cmpv x c = -1 := by unfold cmpv; rw [if_neg (fun h => h2 h.2), if_pos (by omega)]
      rw [hv, if_pos (by omega), ranges_Scalar.l0, if_neg (by show ¬ ((0 : Int) + 1 < ((1 : Nat) : Int)); omega), if_neg (by show ¬ ((0 : Int) + 1 < ((1 : Nat) : Int)); omega), if_neg (fun h => h2 h.2)]
  · have hv : cmpv x c = 1 := by unfold cmpv; rw [if_neg (fun h => h1 h.1), if_neg (by omega), if_pos (by omega)]
    rw [hv, if_neg (by omega), ranges_Scalar.l0, if_neg (by omega), if_pos (by show (0 : Int) < ((1 : Nat) : Int); omega), e0, hv, if_neg (by omega), if_neg (fun h => h1 h.1)]
theorem code_one (x : S44) (hx : Rt x) (d : Int) (h0 : 0 ≤ d) (h1 : d ≤ x.f1 - x.f0) (k : Nat) (hk : 1 ≤ k) : ranges_Code.f k [x] (x.f2 + d) = some (x.f0 + d, true) := by
  obtain ⟨k, rfl⟩ : ∃ m, k = m + 1 := ⟨k - 1, by omega⟩
  have e0 : rd_T44 [x] 0 = x := rfl
  obtain ⟨a0, a1, a2, a3, a4, a5⟩ := hx
  obtain ⟨b0, b1, _⟩ := a3
  unfold ranges_Code.f
  rw [ranges_Code.l0, if_pos (by show (0 : Int) < ((1 : Nat) : Int); omega), if_pos (by omega), if_pos (by show (0 : Int) < ((1 : Nat) : Int); omega), e0]
  have e : wrap64 (wrap64 (x.f2 + d) - wrap64 x.f2) = d := by
    rw [w64 (x.f2 + d) (by omega), w64 x.f2 (by omega), w64 _ (by omega)]
    omega
  rw [e, if_pos (by omega), w64 (x.f1 - x.f0) (by omega), if_pos (by omega), w64 (x.f0 + d) (by omega)]
theorem pairs_none (l : List S44) (k : Nat) (v : Int) (hv : v ≠ 0) (h : ranges_Check.f k l = some v) : ranges_Pairs.f k l = some [] := by
  unfold ranges_Pairs.f
  rw [h, Option.bind_some, if_neg hv]
theorem chk_one {x : S44} (h : chk [x] = 0) : Rt x := by
  unfold chk at h
  rw [if_neg (by show ¬ (((1 : Nat) : Int) > 65536); omega)] at h
  unfold chks at h
  by_cases hx : Rt x ∧ -1 < x.f0
  · exact hx.1
  · rw [if_neg hx] at h
    cases h
theorem one_true (x : S44) (c : Int) (hd : Dm x) (hx0 : -9223372036854775808 ≤ x.f0 ∧ x.f0 ≤ 9223372036854775807) (hc : -9223372036854775808 ≤ c ∧ c ≤ 9223372036854775807) : dragomanlaw06_RangesOne.f 20 x.f0 x.f1 x.f2 c = some true := by
  have hck : ranges_Check.f 20 [x] = some (chk [x]) := check_f [x] (fun y hy => by rw [List.mem_singleton.1 hy]; exact hd) 20 (by show 4 ≤ 20; omega)
  unfold dragomanlaw06_RangesOne.f
  rw [works_f, Option.bind_some, if_pos rfl, Option.bind_some]
  show (ranges_Check.f 20 [x]).bind _ = some true
  rw [hck, Option.bind_some]
  by_cases h0 : chk [x] = 0
  · have hx := chk_one h0
    have hx' := hx
    obtain ⟨a0, a1, a2, a3, a4, a5⟩ := hx'
    obtain ⟨b0, b1, _⟩ := a3
    rw [if_pos h0]
    show (ranges_Scalar.f 20 [x] c).bind _ = some true
    rw [scalar_one x hx c hc 20 (by omega), Option.bind_some]
    by_cases h1 : x.f0 ≤ c
    · rw [if_pos h1]
      by_cases h2 : c ≤ x.f1
      · rw [if_pos ⟨h1, h2⟩, decide_eq_true h2]
        show dragomanlaw06_RangesOne.j0 20 c [x] (x.f2 + (c - x.f0)) true false x.f0 x.f1 x.f2 = _
        rw [dragomanlaw06_RangesOne.j0, if_neg (by decide), if_pos rfl, code_one x hx (c - x.f0) (by omega) (by omega) 19 (by omega), Option.bind_some]
        have e1 : wrap64 (wrap64 (x.f2 + (c - x.f0)) - wrap64 x.f2) = wrap64 (c - x.f0) := by
          rw [w64 (x.f2 + (c - x.f0)) (by omega), w64 x.f2 (by omega)]
          congr 1
          omega
        rw [e1, if_pos rfl, if_pos rfl, show x.f0 + (c - x.f0) = c by omega]
        simp
      · rw [if_neg (fun h => h2 h.2), decide_eq_false h2]
        show dragomanlaw06_RangesOne.j0 20 c [x] 0 false false x.f0 x.f1 x.f2 = _
        rw [dragomanlaw06_RangesOne.j0, if_neg (by decide), if_neg (by decide)]
        rfl
    · rw [if_neg (fun h : c ≥ x.f0 => h1 h), if_neg (fun h => h1 h.1)]
      show dragomanlaw06_RangesOne.j0 20 c [x] 0 false false x.f0 x.f1 x.f2 = _
      rw [dragomanlaw06_RangesOne.j0, if_neg (by decide), if_neg (by decide)]
      rfl
  · rw [if_neg h0]
    show (ranges_Pairs.f 20 [x]).bind _ = some true
    rw [pairs_none [x] 20 _ h0 hck]
    rfl
theorem one_walk (w : World) (a b c : Int) (wa : (Lit.int .i64 a).wf = true) (wb : (Lit.int .i64 b).wf = true) (wc : (Lit.int .i32 c).wf = true) (d : Int) (wd : (Lit.int .i64 d).wf = true) :
    Calls Try.prog 6 #[.agg #[.int .i64 a, .int .i64 b, .int .i32 c], .int .i64 d] w fun e w' => e = .returned (.bool true) ∧ Below w.heap.size w w' :=
  dragomanlaw06_RangesOne.calls 20 a b c d true w (one_true ⟨a, b, c⟩ d (bounds_i32 wc) (bounds_i64 wa) (bounds_i64 wd))
end Go.Proofs.Ytnapldildjnchaa.PRangesOne
