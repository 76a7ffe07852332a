/- RangesTells, plainly: what is told over pairs; the law, and its walk. -/
import Derived.Test.YtnapldildjnchaaPtTells
namespace Go.Proofs.Ytnapldildjnchaa.PRangesTells
open Go.RowKit Go.Proofs.YtnapldildjnchaaW.PrintWords Go.Proofs.YtnapldildjnchaaW.PrintLast Go.Proofs.YtnapldildjnchaaW.PrintMore
set_option linter.unusedVariables false
def rsc : List S41 → Int → Int × Bool
  | [], _ => (0, false)
  | p :: t, c => if p.f0 = c then (p.f1, true) else rsc t c
def rco : List S41 → Int → Int × Bool
  | [], _ => (0, false)
  | p :: t, u => if p.f1 = u then (p.f0, true) else rco t u
theorem rsc_rng : ∀ (d : Nat) (f a : Int) (t : List S41) (c : Int), rsc (rngF f a d ++ t) c = if f ≤ c ∧ c < f + d then (a + (c - f), true) else rsc t c
  | 0, f, a, t, c => by
    rw [rngF, List.nil_append, if_neg (by omega)]
  | d + 1, f, a, t, c => by
    rw [rngF, List.cons_append, rsc, rsc_rng d (f + 1) (a + 1) t c]
    by_cases h : f = c
    · subst h
      rw [if_pos rfl, if_pos (by omega), Int.sub_self, Int.add_zero]
    · rw [if_neg h]
      by_cases h2 : f + 1 ≤ c ∧ c < f + 1 + d
      · rw [if_pos h2, if_pos (by omega), show a + 1 + (c - (f + 1)) = a + (c - f) by omega]
      · rw [if_neg h2, if_neg (by omega)]
theorem rco_rng : ∀ (d : Nat) (f a : Int) (t : List S41) (u : Int), rco (rngF f a d ++ t) u = if a ≤ u ∧ u < a + d then (f + (u - a), true) else rco t u
  | 0, f, a, t, c => by
    rw [rngF, List.nil_append, if_neg (by omega)]
  | d + 1, f, a, t, c => by
    rw [rngF, List.cons_append, rco, rco_rng d (f + 1) (a + 1) t c]
    by_cases h : a = c
    · subst h
      rw [if_pos rfl, if_pos (by omega), Int.sub_self, Int.add_zero]
    · rw [if_neg h]
      by_cases h2 : a + 1 ≤ c ∧ c < a + 1 + d
      · rw [if_pos h2, if_pos (by omega), show f + 1 + (c - (a + 1)) = f + (c - a) by omega]
      · rw [if_neg h2, if_neg (by omega)]
theorem rsc_prs : ∀ (l : List S44) (last c : Int), Srt last l → rsc (prs l) c = scOf l c
  | [], _, _, _ => rfl
  | x :: t, last, c, hs => by
    have h2 := hs.1.2.2.1
    rw [prs, rsc_rng, scOf, rsc_prs t x.f1 c hs.2.2]
    by_cases h : x.f0 ≤ c ∧ c ≤ x.f1
    · rw [if_pos h, if_pos (by omega)]
    · rw [if_neg h, if_neg (by omega)]
theorem rco_prs : ∀ (l : List S44) (last u : Int), Srt last l → rco (prs l) u = coOf l u
  | [], _, _, _ => rfl
  | x :: t, last, u, hs => by
    have h2 := hs.1.2.2.1
    rw [prs, rco_rng, coOf, rco_prs t x.f1 u hs.2.2]
    by_cases h : 0 ≤ u - x.f2 ∧ u - x.f2 ≤ x.f1 - x.f0
    · rw [if_pos h, if_pos (by omega)]
    · rw [if_neg h, if_neg (by omega)]
theorem rd41 (l : List S41) (i : Nat) (p : S41) (t : List S41) (h : l.drop i = p :: t) : rd_T41 l (i : Int) = p := by
  unfold rd_T41
  rw [Int.toNat_natCast]
  have hi : l[i]? = some p := by
    have := List.getElem?_drop (xs := l) (i := i) (j := 0)
    rw [h] at this
    simpa using this.symm
  simp [List.getD_eq_getElem?_getD, hi]
theorem drop_lt41 (l : List S41) (i : Nat) (p : S41) (t : List S41) (h : l.drop i = p :: t) : i < l.length ∧ l.drop (i + 1) = t := by
  have h1 : i < l.length := by
    rcases Nat.lt_or_ge i l.length with h1 | h1
    · exact h1
    · rw [List.drop_eq_nil_of_le h1] at h
      cases h
  refine ⟨h1, ?_⟩
  rw [← List.drop_drop, h]
  rfl
theorem rscalar_l0 (l : List S41) (hl : l.length ≤ 65536) (c : Int) (r : List S41) : ∀ (k i : Nat), l.drop i = r → i ≤ l.length → r.length + 1 ≤ k → dragomanref06_Scalar.l0 k l c (i : Int) = some (rsc r c) := by
  induction r with
  | nil =>
    intro k i hr hi hk
    obtain ⟨k, rfl⟩ : ∃ m, k = m + 1 := ⟨k - 1, by omega⟩
    have hil : ¬ ((i : Int) < (l.length : Int)) := by
      intro h
      have : 0 < (l.drop i).length := by rw [List.length_drop]; omega
      rw [hr] at this
      simp at this
    rw [dragomanref06_Scalar.l0, if_neg hil]
    rfl
  | cons p t ih =>
    intro k i hr hi hk
    have hk2 : t.length + 2 ≤ k := by simp at hk; omega
    obtain ⟨k, rfl⟩ : ∃ m, k = m + 1 := ⟨k - 1, by omega⟩
    obtain ⟨h1, h2⟩ := drop_lt41 l i p t hr
    have hih := ih k (i + 1) h2 (by omega) (by omega)
    rw [show ((i + 1 : Nat) : Int) = (i : Int) + 1 by omega] at hih
    rw [dragomanref06_Scalar.l0, if_pos (by omega), if_pos (by omega), rd41 l i p t hr, w64 ((i : Int) + 1) (by omega), rsc]
    by_cases h : p.f0 = c
    · rw [if_pos h, if_pos h]
    · rw [if_neg h, if_neg h]
      exact hih
theorem rcode_l0 (l : List S41) (hl : l.length ≤ 65536) (c : Int) (r : List S41) : ∀ (k i : Nat), l.drop i = r → i ≤ l.length → r.length + 1 ≤ k → dragomanref06_Code.l0 k l c (i : Int) = some (rco r c) := by
  induction r with
  | nil =>
    intro k i hr hi hk
    obtain ⟨k, rfl⟩ : ∃ m, k = m + 1 := ⟨k - 1, by omega⟩
    have hil : ¬ ((i : Int) < (l.length : Int)) := by
      intro h
      have : 0 < (l.drop i).length := by rw [List.length_drop]; omega
      rw [hr] at this
      simp at this
    rw [dragomanref06_Code.l0, if_neg hil]
    rfl
  | cons p t ih =>
    intro k i hr hi hk
    have hk2 : t.length + 2 ≤ k := by simp at hk; omega
    obtain ⟨k, rfl⟩ : ∃ m, k = m + 1 := ⟨k - 1, by omega⟩
    obtain ⟨h1, h2⟩ := drop_lt41 l i p t hr
    have hih := ih k (i + 1) h2 (by omega) (by omega)
    rw [show ((i + 1 : Nat) : Int) = (i : Int) + 1 by omega] at hih
    rw [dragomanref06_Code.l0, if_pos (by omega), if_pos (by omega), rd41 l i p t hr, w64 ((i : Int) + 1) (by omega), rco]
    by_cases h : p.f1 = c
    · rw [if_pos h, if_pos h]
    · rw [if_neg h, if_neg h]
      exact hih
theorem same : ∀ (m k i : Nat) (l : List S44), l.length ≤ 8796093022208 → i + m = l.length → m + 1 ≤ k → dragomanref06_Same.l0 k l l (i : Int) = some true
  | 0, k, i, l, hl, hi, hk => by
    obtain ⟨k, rfl⟩ : ∃ m, k = m + 1 := ⟨k - 1, by omega⟩
    rw [dragomanref06_Same.l0, if_neg (by omega)]
  | m + 1, k, i, l, hl, hi, hk => by
    obtain ⟨k, rfl⟩ : ∃ m, k = m + 1 := ⟨k - 1, by omega⟩
    have hw : wrap64 ((i : Int) + 1) = ((i + 1 : Nat) : Int) := by rw [w64 _ (by omega)]; omega
    rw [dragomanref06_Same.l0, if_pos (by omega), if_pos (by omega), if_pos (by omega), if_neg (by simp), hw]
    exact same m k (i + 1) l hl (by omega) (by omega)
theorem samePairs : ∀ (m k i : Nat) (l : List S41), l.length ≤ 8796093022208 → i + m = l.length → m + 1 ≤ k → dragomanref06_SamePairs.l0 k l l (i : Int) = some true
  | 0, k, i, l, hl, hi, hk => by
    obtain ⟨k, rfl⟩ : ∃ m, k = m + 1 := ⟨k - 1, by omega⟩
    rw [dragomanref06_SamePairs.l0, if_neg (by omega)]
  | m + 1, k, i, l, hl, hi, hk => by
    obtain ⟨k, rfl⟩ : ∃ m, k = m + 1 := ⟨k - 1, by omega⟩
    have hw : wrap64 ((i : Int) + 1) = ((i + 1 : Nat) : Int) := by rw [w64 _ (by omega)]; omega
    rw [dragomanref06_SamePairs.l0, if_pos (by omega), if_pos (by omega), if_pos (by omega), if_neg (by simp), hw]
    exact samePairs m k (i + 1) l hl (by omega) (by omega)
theorem tells_true (l : List S44) (c u : Int) (hd : ∀ x ∈ l, Dm x) (hl : l.length < 5864062014805) (hc : -9223372036854775808 ≤ c ∧ c ≤ 9223372036854775807) (hu : -2147483648 ≤ u ∧ u ≤ 2147483647) (k : Nat) (hk : 2 * l.length + 300000 ≤ k) : dragomanlaw06_RangesTells.f k l c u = some true := by
  unfold dragomanlaw06_RangesTells.f
  rw [Option.bind_some, List.nil_append, if_pos (by rw [List.length_nil]; omega), Option.bind_some, rcheck_f l hd k (by omega), Option.bind_some, check_f l hd k (by omega), Option.bind_some, if_pos rfl, rpairs_f l hd k (by omega), Option.bind_some, pairs_f l hd k (by omega), Option.bind_some]
  have hpl : (prsOf l).length ≤ 65536 := by
    unfold prsOf
    by_cases h : chk l = 0
    · rw [if_pos h]
      obtain ⟨hs, hcn, _⟩ := chk_srt h
      have := prs_len l (-1) hs
      omega
    · rw [if_neg h]
      exact Nat.zero_le _
  have hsp : dragomanref06_SamePairs.f k (prsOf l) (prsOf l) = some true := by
    unfold dragomanref06_SamePairs.f
    rw [if_pos rfl]
    exact samePairs _ k 0 _ (by omega) (Nat.zero_add _) (by omega)
  have hsm : dragomanref06_Same.f k l l = some true := by
    unfold dragomanref06_Same.f
    rw [if_pos rfl]
    exact same _ k 0 _ (by omega) (Nat.zero_add _) (by omega)
  rw [hsp, Option.bind_some, if_pos rfl, hsm, Option.bind_some]
  obtain ⟨k, rfl⟩ : ∃ m, k = m + 1 := ⟨k - 1, by omega⟩
  rw [dragomanlaw06_RangesTells.j0, if_neg (by decide)]
  by_cases h : chk l = 0
  · rw [if_pos h]
    obtain ⟨hs, hcn, hln⟩ := chk_srt h
    have hp : prsOf l = prs l := by unfold prsOf; rw [if_pos h]
    rw [hp] at hpl ⊢
    have e1 : dragomanref06_Scalar.f k (prs l) c = some (scOf l c) := by
      rw [← rsc_prs l (-1) c hs]
      exact rscalar_l0 (prs l) hpl c (prs l) k 0 rfl (Nat.zero_le _) (by omega)
    have e2 : dragomanref06_Code.f k (prs l) u = some (coOf l u) := by
      rw [← rco_prs l (-1) u hs]
      exact rcode_l0 (prs l) hpl u (prs l) k 0 rfl (Nat.zero_le _) (by omega)
    rw [scalar_f l (-1) hs hln c hc k (by omega), Option.bind_some, e1, Option.bind_some, code_f l hln u hu (fun x hx => (srt_lt l (-1) hs x hx).2) k (by omega), Option.bind_some, e2, Option.bind_some, if_pos rfl, if_pos (by simp), if_pos rfl]
    simp
  · rw [if_neg h]
def mk44 (p : Int × Int × Int) : S44 := ⟨p.1, p.2.1, p.2.2⟩
theorem row44 {w : World} {a : Option Addr} {len cap : Nat} {l : List (Int × Int × Int)} (h : Rp.Row w 3 Rp.RangeK Rp.RangeD a len cap l) : Kd.C k44 w a (l.map mk44).length (l.map mk44) := by
  obtain ⟨h1, h2, h3, h4, _⟩ := h
  refine ⟨rfl, ?_, fun hp => ?_⟩
  · have : maxLen = 9223372036854775807 := rfl
    rw [List.length_map]
    omega
  · rw [List.length_map] at hp
    obtain ⟨x, rfl, hx⟩ := h4 (by omega)
    refine ⟨x, rfl, fun j p hj => ?_⟩
    rw [List.getElem?_map] at hj
    obtain ⟨q, hq, rfl⟩ := Option.map_eq_some_iff.1 hj
    exact ⟨_, rfl, k44_mk w (mk44 q), fun i u hu => hx j q hq i u hu⟩
theorem tells_walk (w : World) (a : Option Addr) (len cap : Nat) (l : List (Int × Int × Int)) (h : Rp.Row w 3 Rp.RangeK Rp.RangeD a len cap l) (hl : len * 24 ≤ 140737488351232) (c : Int) (wc : (Lit.int .i64 c).wf = true) (u : Int) (wu : (Lit.int .i32 u).wf = true) :
    Calls Try.prog 4 #[.slice a len cap, .int .i64 c, .int .i32 u] w fun e w' => e = .returned (.bool true) ∧ Below w.heap.size w w' := by
  have hC := row44 h
  have e : (l.map mk44).length = len := by rw [List.length_map]; exact h.1
  have := dragomanlaw06_RangesTells.calls (2 * (l.map mk44).length + 300000) a cap (l.map mk44) c u true w hC (by rw [e]; exact h.2.1) (tells_true (l.map mk44) c u (fun p hp => by
    obtain ⟨q, hq, rfl⟩ := List.mem_map.1 hp
    exact bounds_i32 (h.2.2.2.2 q hq).2.2) (by rw [e]; omega) (bounds_i64 wc) (bounds_i32 wu) _ (Nat.le_refl _))
  rw [e] at this
  exact this
end Go.Proofs.Ytnapldildjnchaa.PRangesTells
