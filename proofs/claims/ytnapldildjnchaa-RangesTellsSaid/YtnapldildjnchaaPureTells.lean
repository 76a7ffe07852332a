/- RangesTells, plainly: both look at a table alike, and tell the same of it. -/
import Derived.Test.YtnapldildjnchaaRbTells
import Derived.Test.YtnapldildjnchaaOpenR
import Derived.OpenShut
namespace Go.Proofs.Ytnapldildjnchaa.PRangesTells
open Go.RowKit Go.Proofs.YtnapldildjnchaaW.PrintWords Go.Proofs.YtnapldildjnchaaW.PrintLast Go.Proofs.YtnapldildjnchaaW.PrintMore
set_option linter.unusedVariables false
theorem rscal_f (u : Int) : dragomanref01_Scalar.f u = some (decide (Scal u)) := by
  unfold dragomanref01_Scalar.f Scal
  by_cases h0 : u ≥ 0 <;> by_cases h1 : u ≤ 1114111 <;> by_cases h2 : u < 55296 <;> by_cases h5 : u > 57343 <;> simp [h0, h1, h2, h5] <;> omega
/-- The rest of what makes a range right. -/
def Rs (x : S44) : Prop := Scal x.f2 ∧ Scal (x.f2 + x.f1 - x.f0) ∧ (x.f2 < 55296 ↔ x.f2 + x.f1 - x.f0 < 55296)
instance (x : S44) : Decidable (Rs x) := by unfold Rs; infer_instance
theorem scalars_f (x : S44) (h0 : 0 ≤ x.f0) (h1 : x.f1 ≤ 16777215) (h2 : x.f0 ≤ x.f1) : dragomanref06_scalars.f x.f2 (wrap64 (wrap64 (x.f1 - x.f0) + 1)) = some (decide (Rs x)) := by
  unfold dragomanref06_scalars.f
  rw [rscal_f, Option.bind_some, w64 (x.f1 - x.f0) (by omega), w64 _ (by omega)]
  by_cases hs : Scal x.f2
  · rw [decide_eq_true hs, if_pos rfl]
    have hs' := hs
    obtain ⟨b0, b1, b2⟩ := hs
    rw [w64 x.f2 (by omega)]
    by_cases h3 : x.f2 < 55296
    · rw [if_pos h3, w64 _ (by omega)]
      congr 1
      by_cases h4 : x.f2 + x.f1 - x.f0 < 55296
      · rw [decide_eq_true (show x.f1 - x.f0 + 1 ≤ 55296 - x.f2 by omega)]
        exact (decide_eq_true (show Rs x from ⟨hs', ⟨by omega, by omega, by omega⟩, ⟨fun _ => h4, fun _ => h3⟩⟩)).symm
      · rw [decide_eq_false (show ¬ x.f1 - x.f0 + 1 ≤ 55296 - x.f2 by omega)]
        exact (decide_eq_false (fun h : Rs x => h4 (h.2.2.1 h3))).symm
    · rw [if_neg h3, w64 _ (by omega)]
      congr 1
      by_cases h4 : x.f2 + x.f1 - x.f0 ≤ 1114111
      · rw [decide_eq_true (show x.f1 - x.f0 + 1 ≤ 1114112 - x.f2 by omega)]
        exact (decide_eq_true (show Rs x from ⟨hs', ⟨by omega, by omega, by omega⟩, ⟨fun h => absurd h h3, fun h => by omega⟩⟩)).symm
      · rw [decide_eq_false (show ¬ x.f1 - x.f0 + 1 ≤ 1114112 - x.f2 by omega)]
        exact (decide_eq_false (fun h : Rs x => h4 h.2.1.2.1)).symm
  · rw [decide_eq_false hs, if_neg (by decide)]
    exact some_false fun h => hs h.1
/-- The reference's sum is held down, but is above the bound when the sum is. -/
def Held (n m : Int) : Prop := 0 ≤ m ∧ m ≤ 16842752 ∧ (n ≤ 65536 → m = n) ∧ (65536 < n → 65536 < m)
theorem held_step {n m q : Int} (h : Held n m) (h0 : 0 ≤ n) (hq : 1 ≤ q) (hq2 : q ≤ 16777216) : Held (n + q) (mn m 65536 + q) := by
  obtain ⟨h1, h2, h3, h4⟩ := h
  unfold Held mn
  by_cases hn : n ≤ 65536
  · have := h3 hn
    subst this
    split <;> omega
  · have := h4 (by omega)
    split <;> omega
theorem rcheck_l0 (l : List S44) (hl : l.length ≤ 65536) (hd : ∀ x ∈ l, Dm x) (r : List S44) : ∀ (k i : Nat) (n m last : Int), l.drop i = r → i ≤ l.length → 2 * r.length + 3 ≤ k → Held n m → 0 ≤ n → (i = 0 → last = -1) → (0 < i → (rd_T44 l ((i - 1 : Nat) : Int)).f1 = last) → -1 ≤ last → dragomanref06_Check.l0 k l m (i : Int) = some (chks n last r) := by
  induction r with
  | nil =>
    intro k i n m last hr hi hk hh hn hl0 hl1 hlast
    obtain ⟨k, rfl⟩ : ∃ m, k = m + 1 := ⟨k - 1, by omega⟩
    have hil : ¬ ((i : Int) < (l.length : Int)) := by
      intro h
      have : 0 < (l.drop i).length := by rw [List.length_drop]; omega
      rw [hr] at this
      simp at this
    rw [dragomanref06_Check.l0, if_neg hil]
    obtain ⟨_, _, h3, h4⟩ := hh
    unfold chks
    by_cases hn6 : n > 65536
    · rw [if_pos hn6, if_pos (h4 hn6)]
    · rw [if_neg hn6, if_neg (by rw [h3 (by omega)]; exact hn6)]
  | cons p t ih =>
    intro k i n m last hr hi hk hh hn hl0 hl1 hlast
    have hk2 : 2 * t.length + 5 ≤ k := by simp at hk; omega
    obtain ⟨k, rfl⟩ : ∃ m, k = m + 2 := ⟨k - 2, by omega⟩
    obtain ⟨h1, h2⟩ := drop_lt l i p t hr
    have hrd := rd44 l i p t hr
    have hmem : p ∈ l := by
      have : p ∈ l.drop i := by rw [hr]; exact List.mem_cons_self
      exact List.mem_of_mem_drop this
    have bad : (¬ (Rt p ∧ last < p.f0)) → dragomanref06_Check.j1 (k + 1) l m (i : Int) true p.f0 p.f1 p.f2 = some (chks n last (p :: t)) := by
      intro h
      rw [dragomanref06_Check.j1, if_pos rfl]
      unfold chks
      rw [if_neg h]
    have fin : 0 ≤ p.f0 → p.f1 ≤ 16777215 → p.f0 ≤ p.f1 → last < p.f0 → ((dragomanref06_scalars.f p.f2 (wrap64 (wrap64 (p.f1 - p.f0) + 1))).bind fun t109 => dragomanref06_Check.j1 (k + 1) l m (i : Int) (!t109) p.f0 p.f1 p.f2) = some (chks n last (p :: t)) := by
      intro g0 g1 g2 g3
      rw [scalars_f p g0 g1 g2, Option.bind_some]
      by_cases hs : Rs p
      · rw [decide_eq_true hs, dragomanref06_Check.j1, if_neg (by decide)]
        have hrt : Rt p := ⟨g0, g1, g2, hs⟩
        unfold chks
        rw [if_pos ⟨hrt, g3⟩]
        have hst := held_step (q := p.f1 - p.f0 + 1) hh hn (by omega) (by omega)
        have hm0 := hh.1
        have hm1 := hh.2.1
        have hmn : 0 ≤ mn m 65536 ∧ mn m 65536 ≤ 65536 := by unfold mn; split <;> omega
        rw [w64 (mn m 65536 + p.f1) (by omega), w64 (mn m 65536 + p.f1 - p.f0) (by omega), w64 _ (by omega), w64 ((i : Int) + 1) (by omega)]
        have := ih k (i + 1) (n + (p.f1 - p.f0 + 1)) (mn m 65536 + (p.f1 - p.f0 + 1)) p.f1 h2 (by omega) (by omega) hst (by omega) (by omega) (fun _ => by rw [Nat.add_sub_cancel]; rw [hrd]) (by omega)
        rw [show ((i + 1 : Nat) : Int) = (i : Int) + 1 by omega, show mn m 65536 + (p.f1 - p.f0 + 1) = mn m 65536 + p.f1 - p.f0 + 1 by omega] at this
        exact this
      · rw [decide_eq_false hs]
        exact bad fun h => hs h.1.2.2.2
    rw [dragomanref06_Check.l0, if_pos (by omega), if_pos (by omega), hrd]
    by_cases c0 : p.f0 < 0
    · rw [if_pos c0]
      exact bad fun h => by have := h.1.1; omega
    · rw [if_neg c0]
      by_cases c1 : p.f1 > 16777215
      · rw [if_pos c1]
        exact bad fun h => by have := h.1.2.1; omega
      · rw [if_neg c1]
        by_cases c2 : p.f0 > p.f1
        · rw [if_pos c2]
          exact bad fun h => by have := h.1.2.2.1; omega
        · rw [if_neg c2]
          by_cases c3 : i = 0
          · subst c3
            rw [if_neg (by omega)]
            exact fin (by omega) (by omega) (by omega) (by have := hl0 rfl; omega)
          · have e : wrap64 ((i : Int) - 1) = ((i - 1 : Nat) : Int) := by rw [w64 _ (by omega)]; omega
            rw [if_pos (by omega), e, if_pos (by omega), if_pos (by omega), hl1 (by omega)]
            by_cases c4 : p.f0 ≤ last
            · rw [if_pos c4]
              exact bad fun h => by have := h.2; omega
            · rw [if_neg c4]
              exact fin (by omega) (by omega) (by omega) (by omega)
theorem rcheck_f (l : List S44) (hd : ∀ x ∈ l, Dm x) (k : Nat) (hk : 2 * l.length + 3 ≤ k) : dragomanref06_Check.f k l = some (chk l) := by
  unfold dragomanref06_Check.f chk
  by_cases h : (l.length : Int) > 65536
  · rw [if_pos h, if_pos h]
  · rw [if_neg h, if_neg h]
    exact rcheck_l0 l (by omega) hd l k 0 0 0 (-1) rfl (Nat.zero_le _) hk ⟨by omega, by omega, fun _ => rfl, fun h => by omega⟩ (by omega) (fun _ => rfl) (fun h => by omega) (by omega)
end Go.Proofs.Ytnapldildjnchaa.PRangesTells
