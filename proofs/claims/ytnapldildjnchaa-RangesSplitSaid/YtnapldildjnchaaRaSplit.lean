/- Plain facts on tables of ranges: what is looked at, the search, the codes. -/
import Derived.Test.YtnapldildjnchaaPRangesSplitx3
namespace Go.Proofs.Ytnapldildjnchaa.PRangesSplit
open Go.RowKit Go.Proofs.YtnapldildjnchaaW.PrintWords Go.Proofs.YtnapldildjnchaaW.PrintLast Go.Proofs.YtnapldildjnchaaW.PrintMore
set_option linter.unusedVariables false
def Scal (u : Int) : Prop := 0 ≤ u ∧ u ≤ 1114111 ∧ ¬ (55296 ≤ u ∧ u ≤ 57343)
instance (u : Int) : Decidable (Scal u) := by unfold Scal; infer_instance
theorem scal_f (u : Int) : ucs_Scalar.f u = some (decide (Scal u)) := by
  unfold ucs_Scalar.f ucs_High.f ucs_Low.f Scal
  by_cases h0 : u ≥ 0 <;> by_cases h1 : u ≤ 1114111 <;> by_cases h2 : u ≥ 55296 <;> by_cases h3 : u < 56320 <;> by_cases h5 : u ≤ 57343 <;> by_cases h4 : u ≥ 56320 <;> simp [h0, h1, h2, h3, h4, h5] <;> omega
theorem w64 (n : Int) (h : -9223372036854775808 ≤ n ∧ n ≤ 9223372036854775807) : wrap64 n = n := by
  unfold wrap64
  omega
theorem w32 (n : Int) (h : -2147483648 ≤ n ∧ n ≤ 2147483647) : wrap32 n = n := by
  unfold wrap32
  omega
/-- A range that is right by itself. -/
def Rt (x : S44) : Prop := 0 ≤ x.f0 ∧ x.f1 ≤ 16777215 ∧ x.f0 ≤ x.f1 ∧ Scal x.f2 ∧ Scal (x.f2 + x.f1 - x.f0) ∧ (x.f2 < 55296 ↔ x.f2 + x.f1 - x.f0 < 55296)
instance (x : S44) : Decidable (Rt x) := by unfold Rt; infer_instance
def Dm (x : S44) : Prop := -2147483648 ≤ x.f2 ∧ x.f2 ≤ 2147483647
theorem some_false {p : Prop} [Decidable p] (h : ¬ p) : some false = some (decide p) := by rw [decide_eq_false h]
theorem right_f (x : S44) (hd : Dm x) (k : Nat) : ranges_right.f (k + 2) x.f0 x.f1 x.f2 = some (decide (Rt x)) := by
  obtain ⟨f, t, a⟩ := x
  obtain ⟨d0, d1⟩ := hd
  simp only at d0 d1
  show ranges_right.f (k + 2) f t a = _
  unfold ranges_right.f
  by_cases h0 : f < 0
  · rw [if_pos h0]
    simp only [ranges_right.j0]
    rw [if_pos trivial]
    exact some_false fun h => by have := h.1; simp only at this; omega
  · rw [if_neg h0]
    by_cases h1 : t > 16777215
    · rw [if_pos h1]
      simp only [ranges_right.j0]
      rw [if_pos trivial]
      exact some_false fun h => by have := h.2.1; simp only at this; omega
    · rw [if_neg h1]
      by_cases h2 : f > t
      · rw [decide_eq_true h2]
        simp only [ranges_right.j0]
        rw [if_pos trivial]
        exact some_false fun h => by have := h.2.2.1; simp only at this; omega
      · rw [decide_eq_false h2]
        simp only [ranges_right.j0]
        rw [if_neg (by decide)]
        have e1 : wrap64 (wrap64 (wrap64 a + t) - f) = a + t - f := by
          rw [w64 a (by omega), w64 (a + t) (by omega), w64 _ (by omega)]
        rw [e1]
        by_cases h3 : a + t - f > 1114111
        · rw [if_pos h3]
          exact some_false fun h => by have := h.2.2.2.2.1.2.1; simp only at this; omega
        · rw [if_neg h3, scal_f, Option.bind_some]
          by_cases h4 : Scal a
          · rw [decide_eq_true h4, if_pos rfl]
            have e2 : wrap32 (a + t - f) = a + t - f := w32 _ (by have := h4.1; omega)
            rw [e2, scal_f, Option.bind_some]
            by_cases h5 : Scal (a + t - f)
            · rw [decide_eq_true h5, if_pos rfl]
              congr 1
              by_cases h6 : a < 55296
              · by_cases h7 : a + t - f < 55296
                · rw [decide_eq_true h6, decide_eq_true h7]
                  exact (decide_eq_true (show Rt ⟨f, t, a⟩ from ⟨by simp only; omega, by simp only; omega, by simp only; omega, h4, h5, ⟨fun _ => h7, fun _ => h6⟩⟩)).symm
                · rw [decide_eq_true h6, decide_eq_false h7]
                  exact (decide_eq_false (fun h : Rt ⟨f, t, a⟩ => h7 (h.2.2.2.2.2.1 h6))).symm
              · by_cases h7 : a + t - f < 55296
                · rw [decide_eq_false h6, decide_eq_true h7]
                  exact (decide_eq_false (fun h : Rt ⟨f, t, a⟩ => h6 (h.2.2.2.2.2.2 h7))).symm
                · rw [decide_eq_false h6, decide_eq_false h7]
                  exact (decide_eq_true (show Rt ⟨f, t, a⟩ from ⟨by simp only; omega, by simp only; omega, by simp only; omega, h4, h5, ⟨fun h => absurd h h6, fun h => absurd h h7⟩⟩)).symm
            · rw [decide_eq_false h5, if_neg (by decide)]
              exact some_false fun h => h5 h.2.2.2.2.1
          · rw [decide_eq_false h4, if_neg (by decide)]
            exact some_false fun h => h4 h.2.2.2.1
def chks : Int → Int → List S44 → Int
  | n, _, [] => if n > 65536 then 8 else 0
  | n, last, x :: t => if Rt x ∧ last < x.f0 then chks (n + (x.f1 - x.f0 + 1)) x.f1 t else 3
def chk (l : List S44) : Int := if (l.length : Int) > 65536 then 8 else chks 0 (-1) l
theorem rd44 (l : List S44) (i : Nat) (p : S44) (t : List S44) (h : l.drop i = p :: t) : rd_T44 l (i : Int) = p := by
  unfold rd_T44
  rw [Int.toNat_natCast]
  have hi : l[i]? = some p := by
    have := List.getElem?_drop (xs := l) (i := i) (j := 0)
    rw [h] at this
    simpa using this.symm
  simp [List.getD_eq_getElem?_getD, hi]
theorem drop_lt (l : List S44) (i : Nat) (p : S44) (t : List S44) (h : l.drop i = p :: t) : i < l.length ∧ l.drop (i + 1) = t := by
  have h1 : i < l.length := by
    rcases Nat.lt_or_ge i l.length with h1 | h1
    · exact h1
    · rw [List.drop_eq_nil_of_le h1] at h
      cases h
  refine ⟨h1, ?_⟩
  rw [← List.drop_drop, h]
  rfl
theorem check_l0 (l : List S44) (hl : l.length ≤ 65536) (hd : ∀ x ∈ l, Dm x) (r : List S44) : ∀ (k i : Nat) (n last : Int), l.drop i = r → i ≤ l.length → r.length + 3 ≤ k → 0 ≤ n → n ≤ i * 16777216 → ranges_Check.l0 k n last l (l.length : Int) (i : Int) = some (chks n last r) := by
  induction r with
  | nil =>
    intro k i n last hr hi hk hn hn2
    obtain ⟨k, rfl⟩ : ∃ m, k = m + 1 := ⟨k - 1, by omega⟩
    have hil : ¬ ((i : Int) < (l.length : Int)) := by
      intro h
      have : 0 < (l.drop i).length := by rw [List.length_drop]; omega
      rw [hr] at this
      simp at this
    simp only [ranges_Check.l0, chks]
    rw [if_neg hil]
    split <;> rfl
  | cons p t ih =>
    intro k i n last hr hi hk hn hn2
    have hk2 : t.length + 4 ≤ k := by simp at hk; omega
    obtain ⟨k, rfl⟩ : ∃ m, k = m + 1 := ⟨k - 1, by omega⟩
    obtain ⟨h1, h2⟩ := drop_lt l i p t hr
    have hrd := rd44 l i p t hr
    have hmem : p ∈ l := by
      have : p ∈ l.drop i := by rw [hr]; exact List.mem_cons_self
      exact List.mem_of_mem_drop this
    have hdp : Dm p := hd p hmem
    simp only [ranges_Check.l0, chks, hrd]
    have hih := ih k (i + 1) (n + (p.f1 - p.f0 + 1)) p.f1 h2 (by omega) (by omega)
    obtain ⟨k, rfl⟩ : ∃ m, k = m + 2 := ⟨k - 2, by omega⟩
    rw [if_pos (by omega), if_pos (by omega), if_pos (by omega), right_f p hdp, Option.bind_some]
    by_cases hp : Rt p
    · rw [decide_eq_true hp, if_pos rfl]
      have hp' := hp
      obtain ⟨a0, a1, a2, _⟩ := hp
      by_cases hq : p.f0 ≤ last
      · rw [if_pos hq, if_neg (by intro h; have := h.2; omega)]
      · rw [if_neg hq, if_pos ⟨hp', by omega⟩]
        rw [w64 (p.f1 - p.f0) (by omega), w64 (p.f1 - p.f0 + 1) (by omega), w64 (n + (p.f1 - p.f0 + 1)) (by omega), w64 ((i : Int) + 1) (by omega)]
        have := hih (by omega) (by omega)
        rw [show ((i + 1 : Nat) : Int) = (i : Int) + 1 by omega] at this
        exact this
    · rw [decide_eq_false hp, if_neg (by decide), if_neg (fun h => hp h.1)]
theorem check_f (l : List S44) (hd : ∀ x ∈ l, Dm x) (k : Nat) (hk : l.length + 3 ≤ k) : ranges_Check.f k l = some (chk l) := by
  unfold ranges_Check.f chk
  by_cases h : (l.length : Int) > 65536
  · rw [if_pos h, if_pos h]
  · rw [if_neg h, if_neg h]
    exact check_l0 l (by omega) hd l k 0 0 (-1) rfl (Nat.zero_le _) hk (by omega) (by omega)
end Go.Proofs.Ytnapldildjnchaa.PRangesSplit
