/- Plain facts on right tables: their pairs, the search, the codes. -/
import Derived.Test.YtnapldildjnchaaRaSplit
namespace Go.Proofs.Ytnapldildjnchaa.PRangesSplit
open Go.RowKit Go.Proofs.YtnapldildjnchaaW.PrintWords Go.Proofs.YtnapldildjnchaaW.PrintLast Go.Proofs.YtnapldildjnchaaW.PrintMore
set_option linter.unusedVariables false
/-- Right ranges, one behind the other. -/
def Srt : Int → List S44 → Prop
  | _, [] => True
  | last, x :: t => Rt x ∧ last < x.f0 ∧ Srt x.f1 t
def cnt : List S44 → Int
  | [] => 0
  | x :: t => (x.f1 - x.f0 + 1) + cnt t
theorem chks_srt : ∀ (r : List S44) (n last : Int), chks n last r = 0 → Srt last r ∧ n + cnt r ≤ 65536
  | [], n, last, h => by
    unfold chks at h
    by_cases hn : n > 65536
    · rw [if_pos hn] at h
      cases h
    · exact ⟨trivial, by unfold cnt; omega⟩
  | x :: t, n, last, h => by
    unfold chks at h
    by_cases hx : Rt x ∧ last < x.f0
    · rw [if_pos hx] at h
      obtain ⟨h1, h2⟩ := chks_srt t _ _ h
      exact ⟨⟨hx.1, hx.2, h1⟩, by unfold cnt; omega⟩
    · rw [if_neg hx] at h
      cases h
theorem srt_chks : ∀ (r : List S44) (n last : Int), Srt last r → n + cnt r ≤ 65536 → chks n last r = 0
  | [], n, last, _, h => by
    unfold chks
    rw [if_neg (by unfold cnt at h; omega)]
  | x :: t, n, last, hs, h => by
    unfold chks
    obtain ⟨h1, h2, h3⟩ := hs
    rw [if_pos ⟨h1, h2⟩]
    exact srt_chks t _ _ h3 (by unfold cnt at h; omega)
theorem chk_srt {l : List S44} (h : chk l = 0) : Srt (-1) l ∧ cnt l ≤ 65536 ∧ l.length ≤ 65536 := by
  unfold chk at h
  by_cases hl : (l.length : Int) > 65536
  · rw [if_pos hl] at h
    cases h
  · rw [if_neg hl] at h
    obtain ⟨h1, h2⟩ := chks_srt l 0 (-1) h
    exact ⟨h1, by omega, by omega⟩
theorem srt_lt : ∀ (l : List S44) (last : Int), Srt last l → ∀ x ∈ l, last < x.f0 ∧ Rt x
  | [], _, _, x, hx => by cases hx
  | y :: t, last, hs, x, hx => by
    obtain ⟨h1, h2, h3⟩ := hs
    rcases List.mem_cons.1 hx with rfl | hx
    · exact ⟨h2, h1⟩
    · have := srt_lt t y.f1 h3 x hx
      have h4 := h1.2.2.1
      exact ⟨by omega, this.2⟩
theorem srt_ij : ∀ (l : List S44) (last : Int), Srt last l → ∀ (i j : Nat) (x y : S44), l[i]? = some x → l[j]? = some y → i < j → x.f1 < y.f0
  | [], _, _, i, j, x, y, hi, hj, hij => by simp at hi
  | z :: t, last, hs, i, j, x, y, hi, hj, hij => by
    obtain ⟨h1, h2, h3⟩ := hs
    obtain ⟨j, rfl⟩ : ∃ m, j = m + 1 := ⟨j - 1, by omega⟩
    rw [List.getElem?_cons_succ] at hj
    match i with
    | 0 =>
      simp at hi
      subst hi
      exact (srt_lt t z.f1 h3 y (List.mem_of_getElem? hj)).1
    | i + 1 =>
      rw [List.getElem?_cons_succ] at hi
      exact srt_ij t z.f1 h3 i j x y hi hj (by omega)
/-- What a table tells of a code. -/
def scOf : List S44 → Int → Int × Bool
  | [], _ => (0, false)
  | x :: t, c => if x.f0 ≤ c ∧ c ≤ x.f1 then (x.f2 + (c - x.f0), true) else scOf t c
def coOf : List S44 → Int → Int × Bool
  | [], _ => (0, false)
  | x :: t, u => if 0 ≤ u - x.f2 ∧ u - x.f2 ≤ x.f1 - x.f0 then (x.f0 + (u - x.f2), true) else coOf t u
theorem scOf_at : ∀ (l : List S44) (last : Int) (c : Int), Srt last l → ∀ (i : Nat) (x : S44), l[i]? = some x → x.f0 ≤ c → c ≤ x.f1 → scOf l c = (x.f2 + (c - x.f0), true)
  | [], _, c, _, i, x, hi, _, _ => by simp at hi
  | z :: t, last, c, hs, i, x, hi, h0, h1 => by
    unfold scOf
    match i with
    | 0 =>
      simp at hi
      subst hi
      rw [if_pos ⟨h0, h1⟩]
    | i + 1 =>
      have hlt := srt_ij (z :: t) last hs 0 (i + 1) z x rfl hi (by omega)
      rw [if_neg (by intro h; omega)]
      rw [List.getElem?_cons_succ] at hi
      exact scOf_at t z.f1 c hs.2.2 i x hi h0 h1
theorem scOf_none : ∀ (l : List S44) (c : Int), (∀ x ∈ l, ¬ (x.f0 ≤ c ∧ c ≤ x.f1)) → scOf l c = (0, false)
  | [], _, _ => rfl
  | z :: t, c, h => by
    unfold scOf
    rw [if_neg (h z List.mem_cons_self)]
    exact scOf_none t c fun x hx => h x (List.mem_cons_of_mem _ hx)
theorem rd_some {l : List S44} {i : Nat} (h : i < l.length) : l[i]? = some (rd_T44 l (i : Int)) := by
  unfold rd_T44
  rw [Int.toNat_natCast, List.getElem?_eq_getElem h]
  simp [List.getD_eq_getElem?_getD, List.getElem?_eq_getElem h]
theorem cmpv_neg {x : S44} {c : Int} (h : x.f0 ≤ x.f1) : cmpv x c < 0 ↔ x.f1 < c := by
  unfold cmpv
  by_cases h1 : x.f0 ≤ c ∧ c ≤ x.f1
  · rw [if_pos h1]; omega
  · rw [if_neg h1]
    by_cases h2 : x.f0 < c
    · rw [if_pos h2]; omega
    · rw [if_neg h2]
      split <;> omega
theorem cmpv_zero {x : S44} {c : Int} : cmpv x c = 0 ↔ x.f0 ≤ c ∧ c ≤ x.f1 ∨ (x.f1 < x.f0 ∧ x.f0 = c) := by
  unfold cmpv
  by_cases h1 : x.f0 ≤ c ∧ c ≤ x.f1
  · rw [if_pos h1]; exact ⟨fun _ => .inl h1, fun _ => rfl⟩
  · rw [if_neg h1]
    by_cases h2 : x.f0 < c
    · rw [if_pos h2]; omega
    · rw [if_neg h2]
      split <;> omega
theorem search (l : List S44) (last : Int) (hs : Srt last l) (hl : l.length ≤ 65536) (c : Int) (hc : -9223372036854775808 ≤ c ∧ c ≤ 9223372036854775807) : ∀ (d k lo hi : Nat), hi - lo = d → lo ≤ hi → hi ≤ l.length → d + 1 ≤ k → (∀ i, i < lo → (rd_T44 l (i : Int)).f1 < c) → (∀ i, hi ≤ i → i < l.length → ¬ (rd_T44 l (i : Int)).f1 < c) →
    ranges_Scalar.l0 k l c (lo : Int) (hi : Int) = some (scOf l c) := by
  intro d
  induction d using Nat.strongRecOn with
  | ind d ih =>
    intro k lo hi hd hlh hhl hk hlo hhi
    obtain ⟨k, rfl⟩ : ∃ m, k = m + 1 := ⟨k - 1, by omega⟩
    rw [ranges_Scalar.l0]
    have hle : ∀ i, i < l.length → (rd_T44 l (i : Int)).f0 ≤ (rd_T44 l (i : Int)).f1 := fun i hi' => (srt_lt l last hs _ (List.mem_of_getElem? (rd_some hi'))).2.2.2.1
    by_cases hlt : lo < hi
    · rw [if_pos (by omega)]
      obtain ⟨m, hm⟩ : ∃ m : Nat, m = (lo + hi) / 2 := ⟨_, rfl⟩
      have hmi : ((lo : Int) + (hi : Int)) / 2 = (m : Int) := by omega
      rw [hmi]
      have hml : m < l.length := by omega
      by_cases hv : cmpv (rd_T44 l (m : Int)) c < 0
      · rw [if_pos hv]
        have hv' := (cmpv_neg (hle m hml)).1 hv
        have := ih (hi - (m + 1)) (by omega) k (m + 1) hi rfl (by omega) hhl (by omega) (fun i hi' => by
          rcases Nat.lt_or_ge i m with h | h
          · have h1 := srt_ij l last hs i m _ _ (rd_some (by omega)) (rd_some hml) h
            have h2 := hle m hml
            omega
          · obtain rfl : i = m := by omega
            exact hv') hhi
        rw [show ((m + 1 : Nat) : Int) = (m : Int) + 1 by omega] at this
        exact this
      · rw [if_neg hv]
        have hv' : ¬ (rd_T44 l (m : Int)).f1 < c := fun h => hv ((cmpv_neg (hle m hml)).2 h)
        exact ih (m - lo) (by omega) k lo m rfl (by omega) (by omega) (by omega) hlo (fun i h1 h2 => by
          rcases Nat.lt_or_ge m i with h | h
          · have h3 := srt_ij l last hs m i _ _ (rd_some hml) (rd_some h2) h
            have h4 := hle i h2
            omega
          · obtain rfl : i = m := by omega
            exact hv')
    · obtain rfl : lo = hi := by omega
      rw [if_neg (by omega)]
      by_cases hll : lo < l.length
      · rw [if_pos (by omega)]
        have hx := rd_some hll
        have hrt := (srt_lt l last hs _ (List.mem_of_getElem? hx)).2
        by_cases hv : cmpv (rd_T44 l (lo : Int)) c = 0
        · rw [if_pos hv]
          rcases cmpv_zero.1 hv with ⟨h0, h1⟩ | ⟨h0, h1⟩
          · rw [scOf_at l last c hs lo _ hx h0 h1]
            obtain ⟨a0, a1, a2, a3, a4, a5⟩ := hrt
            obtain ⟨b0, b1, _⟩ := a3
            obtain ⟨b2, b3, _⟩ := a4
            rw [w64 (c - _) (by omega), w32 (c - _) (by omega), w32 _ (by omega)]
          · have := hle lo hll
            omega
        · rw [if_neg hv]
          refine congrArg some (scOf_none l c fun x hx' hxc => ?_).symm
          obtain ⟨i, hi'⟩ := List.getElem?_of_mem hx'
          have hil : i < l.length := (List.getElem?_eq_some_iff.1 hi').1
          rw [rd_some hil] at hi'
          obtain rfl := Option.some.inj hi'
          rcases Nat.lt_trichotomy i lo with h | h | h
          · have := hlo i h
            omega
          · subst h
            exact hv (cmpv_zero.2 (.inl hxc))
          · have h1 := srt_ij l last hs lo i _ _ hx (rd_some hil) h
            have h2 := hhi lo (Nat.le_refl _) hll
            omega
      · rw [if_neg (by omega)]
        refine congrArg some (scOf_none l c fun x hx' hxc => ?_).symm
        obtain ⟨i, hi'⟩ := List.getElem?_of_mem hx'
        have hil : i < l.length := (List.getElem?_eq_some_iff.1 hi').1
        rw [rd_some hil] at hi'
        obtain rfl := Option.some.inj hi'
        have := hlo i (by omega)
        omega
theorem scalar_f (l : List S44) (last : Int) (hs : Srt last l) (hl : l.length ≤ 65536) (c : Int) (hc : -9223372036854775808 ≤ c ∧ c ≤ 9223372036854775807) (k : Nat) (hk : l.length + 1 ≤ k) : ranges_Scalar.f k l c = some (scOf l c) := by
  unfold ranges_Scalar.f
  rw [if_pos (by omega)]
  exact search l last hs hl c hc l.length k 0 l.length rfl (Nat.zero_le _) (Nat.le_refl _) hk (fun i h => by omega) (fun i h1 h2 => by omega)
theorem code_l0 (l : List S44) (hl : l.length ≤ 65536) (u : Int) (hu : -2147483648 ≤ u ∧ u ≤ 2147483647) (hr : ∀ x ∈ l, Rt x) (r : List S44) : ∀ (k i : Nat), l.drop i = r → i ≤ l.length → r.length + 1 ≤ k → ranges_Code.l0 k u l (l.length : Int) (i : Int) = some (coOf r u) := by
  induction r with
  | nil =>
    intro k i hr' hi hk
    obtain ⟨k, rfl⟩ : ∃ m, k = m + 1 := ⟨k - 1, by omega⟩
    have hil : ¬ ((i : Int) < (l.length : Int)) := by
      intro h
      have : 0 < (l.drop i).length := by rw [List.length_drop]; omega
      rw [hr'] at this
      simp at this
    rw [ranges_Code.l0, if_neg hil]
    rfl
  | cons p t ih =>
    intro k i hr' hi hk
    have hk2 : t.length + 2 ≤ k := by simp at hk; omega
    obtain ⟨k, rfl⟩ : ∃ m, k = m + 1 := ⟨k - 1, by omega⟩
    obtain ⟨h1, h2⟩ := drop_lt l i p t hr'
    have hrd := rd44 l i p t hr'
    have hmem : p ∈ l := by
      have : p ∈ l.drop i := by rw [hr']; exact List.mem_cons_self
      exact List.mem_of_mem_drop this
    obtain ⟨a0, a1, a2, a3, a4, a5⟩ := hr p hmem
    obtain ⟨b0, b1, _⟩ := a3
    have e : wrap64 (wrap64 u - wrap64 p.f2) = u - p.f2 := by
      rw [w64 u (by omega), w64 p.f2 (by omega), w64 _ (by omega)]
    have hih := ih k (i + 1) h2 (by omega) (by omega)
    rw [show ((i + 1 : Nat) : Int) = (i : Int) + 1 by omega] at hih
    rw [ranges_Code.l0, if_pos (by omega), if_pos (by omega), if_pos (by omega), hrd, e, w64 (p.f1 - p.f0) (by omega), w64 ((i : Int) + 1) (by omega)]
    unfold coOf
    by_cases h3 : 0 ≤ u - p.f2
    · rw [if_pos h3]
      by_cases h4 : u - p.f2 ≤ p.f1 - p.f0
      · rw [if_pos h4, if_pos ⟨h3, h4⟩, w64 _ (by omega)]
      · rw [if_neg h4, if_neg (fun h => h4 h.2)]
        exact hih
    · rw [if_neg h3, if_neg (fun h => h3 h.1)]
      exact hih
theorem code_f (l : List S44) (hl : l.length ≤ 65536) (u : Int) (hu : -2147483648 ≤ u ∧ u ≤ 2147483647) (hr : ∀ x ∈ l, Rt x) (k : Nat) (hk : l.length + 1 ≤ k) : ranges_Code.f k l u = some (coOf l u) :=
  code_l0 l hl u hu hr l k 0 rfl (Nat.zero_le _) hk
end Go.Proofs.Ytnapldildjnchaa.PRangesSplit
