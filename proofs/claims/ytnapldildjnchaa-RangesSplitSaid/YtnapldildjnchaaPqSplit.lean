/- Packing, plainly: the pairs of a table, packed again. -/
import Derived.Test.YtnapldildjnchaaPkSplit
namespace Go.Proofs.Ytnapldildjnchaa.PRangesSplit
open Go.RowKit Go.Proofs.YtnapldildjnchaaW.PrintWords Go.Proofs.YtnapldildjnchaaW.PrintLast Go.Proofs.YtnapldildjnchaaW.PrintMore
set_option linter.unusedVariables false
theorem packs_rng : ∀ (d : Nat) (f a : Int) (out : List S44) (r : List S41), 0 < out.length → (lst out).f1 + 1 = f → a - (lst out).f2 = f - (lst out).f0 → ∃ out', out'.length = out.length ∧ packs out (rngF f a d ++ r) = packs out' r
  | 0, f, a, out, r, _, _, _ => ⟨out, rfl, rfl⟩
  | d + 1, f, a, out, r, h0, h1, h2 => by
    have hg : goes out ⟨f, a⟩ := ⟨h0, h1, h2⟩
    have hst : step out ⟨f, a⟩ = out.set (out.length - 1) ⟨(lst out).f0, f, (lst out).f2⟩ := if_pos hg
    have hl := lst_set out ⟨(lst out).f0, f, (lst out).f2⟩ h0
    obtain ⟨out', e1, e2⟩ := packs_rng d (f + 1) (a + 1) (step out ⟨f, a⟩) r (by rw [hst, List.length_set]; exact h0) (by rw [hst, hl]) (by rw [hst, hl]; show a + 1 - (lst out).f2 = f + 1 - (lst out).f0; omega)
    refine ⟨out', by rw [e1, hst, List.length_set], ?_⟩
    rw [rngF, List.cons_append, packs]
    exact e2
theorem packs_prs : ∀ (l : List S44) (last : Int) (out : List S44), Srt last l → (packs out (prs l)).length ≤ out.length + l.length
  | [], _, out, _ => Nat.le_refl _
  | x :: t, last, out, hs => by
    obtain ⟨hx, _, h3⟩ := hs
    have h2 := hx.2.2.1
    obtain ⟨d, hd⟩ : ∃ d, (x.f1 - x.f0 + 1).toNat = d + 1 := ⟨(x.f1 - x.f0).toNat, by omega⟩
    rw [prs, hd, rngF, List.cons_append, packs]
    have key : 0 < (step out ⟨x.f0, x.f2⟩).length ∧ (step out ⟨x.f0, x.f2⟩).length ≤ out.length + 1 ∧ (lst (step out ⟨x.f0, x.f2⟩)).f1 = x.f0 ∧ x.f2 - (lst (step out ⟨x.f0, x.f2⟩)).f2 = x.f0 - (lst (step out ⟨x.f0, x.f2⟩)).f0 := by
      unfold step
      split
      · rename_i hg
        obtain ⟨g1, g2, g3⟩ := hg
        rw [lst_set _ _ g1, List.length_set]
        exact ⟨g1, by omega, rfl, g3⟩
      · rw [lst_append, List.length_append, List.length_singleton]
        refine ⟨by omega, Nat.le_refl _, rfl, ?_⟩
        show x.f2 - x.f2 = x.f0 - x.f0
        omega
    obtain ⟨k1, k2, k3, k4⟩ := key
    obtain ⟨out', e1, e2⟩ := packs_rng d (x.f0 + 1) (x.f2 + 1) (step out ⟨x.f0, x.f2⟩) (prs t) k1 (by rw [k3]) (by omega)
    rw [e2, List.length_cons]
    have := packs_prs t x.f1 out' h3
    omega
theorem scal_mid {x : S44} (hx : Rt x) (j : Int) (h0 : 0 ≤ j) (h1 : j ≤ x.f1 - x.f0) : Scal (x.f2 + j) := by
  obtain ⟨a0, a1, a2, ⟨b0, b1, b2⟩, ⟨c0, c1, c2⟩, a5⟩ := hx
  refine ⟨by omega, by omega, ?_⟩
  by_cases h : x.f2 < 55296
  · have := a5.1 h
    omega
  · omega
theorem allok_rng : ∀ (d : Nat) (f a last : Int) (r : List S41), last < f → f + d ≤ 16777215 → (∀ j : Int, 0 ≤ j → j ≤ d → Scal (a + j)) → allok (f + d) r → allok last (rngF f a (d + 1) ++ r)
  | 0, f, a, last, r, h0, h1, h2, h3 => by
    have := h2 0 (by omega) (by omega)
    rw [Int.add_zero] at this
    have h4 : f + ((0 : Nat) : Int) = f := by omega
    rw [h4] at h3 h1
    exact ⟨⟨h0, h1, this⟩, h3⟩
  | d + 1, f, a, last, r, h0, h1, h2, h3 => by
    have := h2 0 (by omega) (by omega)
    rw [Int.add_zero] at this
    refine ⟨⟨h0, by show f ≤ 16777215; omega, this⟩, ?_⟩
    refine allok_rng d (f + 1) (a + 1) f r (by omega) (by omega) (fun j hj0 hj1 => ?_) ?_
    · have := h2 (j + 1) (by omega) (by omega)
      rwa [show a + 1 + j = a + (j + 1) by omega]
    · rwa [show f + 1 + (d : Int) = f + ((d + 1 : Nat) : Int) by omega]
theorem allok_prs : ∀ (l : List S44) (last : Int), Srt last l → allok last (prs l)
  | [], _, _ => trivial
  | x :: t, last, hs => by
    obtain ⟨hx, hlt, h3⟩ := hs
    have h2 := hx.2.2.1
    have h1 := hx.2.1
    obtain ⟨d, hd⟩ : ∃ d, (x.f1 - x.f0 + 1).toNat = d + 1 := ⟨(x.f1 - x.f0).toNat, by omega⟩
    rw [prs, hd]
    refine allok_rng d x.f0 x.f2 last (prs t) hlt (by omega) (fun j h0 hj => scal_mid hx j h0 (by omega)) ?_
    rw [show x.f0 + (d : Int) = x.f1 by omega]
    exact allok_prs t x.f1 h3
theorem pack_f (p : List S41) (hd : ∀ q ∈ p, Dom q) (k : Nat) (hk : 2 * p.length + 1 ≤ k) : ranges_Pack.f k p = some (if (p.length : Int) > 65536 then ([], 8) else if allok (-1) p then (packs [] p, 0) else ([], 3)) := by
  unfold ranges_Pack.f
  by_cases h : (p.length : Int) > 65536
  · rw [if_pos h, if_pos h]
  · rw [if_neg h, if_neg h, ← spec_packs]
    exact rp p k 0 [] (-1) p (by omega) rfl (Nat.zero_le _) hk ⟨Nat.le_refl _, by omega, by omega, fun _ => rfl, fun h => by omega, fun h => absurd h (Nat.lt_irrefl 0)⟩ hd
theorem prs_dom : ∀ (l : List S44) (last : Int), Srt last l → ∀ q ∈ prs l, Dom q
  | [], _, _, q, hq => by cases hq
  | x :: t, last, hs, q, hq => by
    obtain ⟨hx, hlt, h3⟩ := hs
    rw [prs] at hq
    rcases List.mem_append.1 hq with hq | hq
    · have gen : ∀ (d : Nat) (f a : Int), 0 ≤ f → f + d ≤ 16777216 → 0 ≤ a → a + d ≤ 1114112 → ∀ q ∈ rngF f a d, Dom q := by
        intro d
        induction d with
        | zero => intro f a _ _ _ _ q hq; cases hq
        | succ d ih =>
          intro f a g0 g1 g2 g3 q hq
          rcases List.mem_cons.1 hq with rfl | hq
          · exact ⟨⟨by show -9223372036854775808 ≤ f; omega, by show f ≤ 9223372036854775807; omega⟩, by show -2147483648 ≤ a; omega, by show a ≤ 2147483647; omega⟩
          · exact ih (f + 1) (a + 1) (by omega) (by omega) (by omega) (by omega) q hq
      obtain ⟨a0, a1, a2, ⟨b0, b1, _⟩, ⟨c0, c1, _⟩, _⟩ := hx
      exact gen _ _ _ a0 (by omega) b0 (by omega) q hq
    · exact prs_dom t x.f1 h3 q hq
end Go.Proofs.Ytnapldildjnchaa.PRangesSplit
