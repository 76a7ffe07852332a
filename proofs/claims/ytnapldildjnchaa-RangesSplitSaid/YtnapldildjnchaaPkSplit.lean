/- Plain facts on tables and their pairs, and on packing. -/
import Derived.Test.YtnapldildjnchaaRbSplit
namespace Go.Proofs.Ytnapldildjnchaa.PRangesSplit
open Go.RowKit Go.Proofs.YtnapldildjnchaaW.PrintWords Go.Proofs.YtnapldildjnchaaW.PrintLast Go.Proofs.YtnapldildjnchaaW.PrintMore
set_option linter.unusedVariables false
def rngF (f a : Int) : Nat → List S41
  | 0 => []
  | d + 1 => ⟨f, a⟩ :: rngF (f + 1) (a + 1) d
def prs : List S44 → List S41
  | [] => []
  | x :: t => rngF x.f0 x.f2 (x.f1 - x.f0 + 1).toNat ++ prs t
def fl : List S44 → Nat
  | [] => 1
  | x :: t => (x.f1 - x.f0 + 1).toNat + 2 + fl t
theorem rngF_len : ∀ (d : Nat) (f a : Int), (rngF f a d).length = d
  | 0, _, _ => rfl
  | d + 1, f, a => by rw [rngF, List.length_cons, rngF_len d]
theorem prs_len : ∀ (l : List S44) (last : Int), Srt last l → ((prs l).length : Int) = cnt l
  | [], _, _ => rfl
  | x :: t, last, hs => by
    obtain ⟨h1, h2, h3⟩ := hs
    have := prs_len t x.f1 h3
    have h4 := h1.2.2.1
    rw [prs, List.length_append, rngF_len, cnt]
    omega
theorem fl_le : ∀ (l : List S44) (last : Int), Srt last l → (fl l : Int) = cnt l + 2 * l.length + 1
  | [], _, _ => rfl
  | x :: t, last, hs => by
    obtain ⟨h1, h2, h3⟩ := hs
    have := fl_le t x.f1 h3
    have h4 := h1.2.2.1
    rw [fl, cnt, List.length_cons]
    omega
theorem pairs_l1 (l : List S44) (len i n f t a : Int) (h0 : 0 ≤ f) (h1 : t ≤ 16777215) (h2 : f ≤ t) (hn : n = t - f + 1) (ha : 0 ≤ a) (hb : a + t - f ≤ 1114111) : ∀ (d k : Nat) (acc : List S41) (j : Int), 0 ≤ j → j + d = n → acc.length + d ≤ 65536 →
    ranges_Pairs.l1 (k + d + 1) acc l len i n j f t a = ranges_Pairs.l0 k (acc ++ rngF (f + j) (a + j) d) l len (wrap64 (i + 1))
  | 0, k, acc, j, hj, hjn, hacc => by
    rw [ranges_Pairs.l1, if_neg (by omega), rngF, List.append_nil]
  | d + 1, k, acc, j, hj, hjn, hacc => by
    rw [show k + (d + 1) + 1 = (k + d + 1) + 1 by omega, ranges_Pairs.l1, if_pos (by omega), if_pos (by omega)]
    rw [w64 (f + j) (by omega), w32 j (by omega), w32 (a + j) (by omega), w64 (j + 1) (by omega)]
    rw [pairs_l1 l len i n f t a h0 h1 h2 hn ha hb d k (acc ++ [(⟨f + j, a + j⟩ : S41)]) (j + 1) (by omega) (by omega) (by rw [List.length_append, List.length_singleton]; omega)]
    rw [List.append_assoc, rngF, show f + (j + 1) = f + j + 1 by omega, show a + (j + 1) = a + j + 1 by omega]
    rfl
theorem pairs_l0 (l : List S44) (hl : l.length ≤ 65536) (r : List S44) : ∀ (k i : Nat) (acc : List S41) (last : Int), l.drop i = r → i ≤ l.length → Srt last r → (acc.length : Int) + cnt r ≤ 65536 → ranges_Pairs.l0 (k + fl r) acc l (l.length : Int) (i : Int) = some (acc ++ prs r) := by
  induction r with
  | nil =>
    intro k i acc last hr hi hs hacc
    have hil : ¬ ((i : Int) < (l.length : Int)) := by
      intro h
      have : 0 < (l.drop i).length := by rw [List.length_drop]; omega
      rw [hr] at this
      simp at this
    rw [show k + fl [] = k + 1 from rfl, ranges_Pairs.l0, if_neg hil, prs, List.append_nil]
  | cons p t ih =>
    intro k i acc last hr hi hs hacc
    obtain ⟨hp, hlt, hs'⟩ := hs
    obtain ⟨h1, h2⟩ := drop_lt l i p t hr
    have hrd := rd44 l i p t hr
    obtain ⟨a0, a1, a2, a3, a4, a5⟩ := hp
    obtain ⟨b0, b1, _⟩ := a3
    obtain ⟨b2, b3, _⟩ := a4
    rw [cnt] at hacc
    have hct : 0 ≤ cnt t := by have := prs_len t p.f1 hs'; omega
    rw [fl, show k + ((p.f1 - p.f0 + 1).toNat + 2 + fl t) = ((k + fl t) + (p.f1 - p.f0 + 1).toNat + 1) + 1 by omega, ranges_Pairs.l0, if_pos (by omega), if_pos (by omega), if_pos (by omega), hrd]
    rw [w64 (p.f1 - p.f0) (by omega), w64 (p.f1 - p.f0 + 1) (by omega)]
    rw [pairs_l1 l (l.length : Int) (i : Int) (p.f1 - p.f0 + 1) p.f0 p.f1 p.f2 a0 a1 a2 rfl b0 (by omega) (p.f1 - p.f0 + 1).toNat (k + fl t) acc 0 (by omega) (by omega) (by omega)]
    rw [w64 ((i : Int) + 1) (by omega), Int.add_zero, Int.add_zero]
    have := ih k (i + 1) (acc ++ rngF p.f0 p.f2 (p.f1 - p.f0 + 1).toNat) p.f1 h2 (by omega) hs' (by rw [List.length_append, rngF_len]; omega)
    rw [show ((i + 1 : Nat) : Int) = (i : Int) + 1 by omega] at this
    rw [this, prs, List.append_assoc]
def prsOf (l : List S44) : List S41 := if chk l = 0 then prs l else []
theorem pairs_f (l : List S44) (hd : ∀ x ∈ l, Dm x) (k : Nat) (hk : l.length + 200000 ≤ k) : ranges_Pairs.f k l = some (prsOf l) := by
  unfold ranges_Pairs.f prsOf
  rw [check_f l hd k (by omega), Option.bind_some]
  by_cases h : chk l = 0
  · rw [if_pos h, if_pos h]
    obtain ⟨hs, hc, hl⟩ := chk_srt h
    have hf := fl_le l (-1) hs
    have := pairs_l0 l hl l (k - fl l) 0 [] (-1) rfl (Nat.zero_le _) hs (by simpa using hc)
    rw [show k - fl l + fl l = k by omega, List.nil_append] at this
    exact this
  · rw [if_neg h, if_neg h]
def rsc : List S41 → Int → Int × Bool
  | [], _ => (0, false)
  | p :: t, c => if p.f0 = c then (p.f1, true) else rsc t c
def rco : List S41 → Int → Int × Bool
  | [], _ => (0, false)
  | p :: t, u => if p.f1 = u then (p.f0, true) else rco t u
theorem rsc_rng : ∀ (d : Nat) (f a : Int) (t : List S41) (c : Int), rsc (rngF f a d ++ t) c = if f ≤ c ∧ c < f + d then (a + (c - f), true) else rsc t c
  | 0, f, a, t, c => by
    rw [rngF, List.nil_append, if_neg (by omega)]
  | d + 1, f, a, t, c => by
    rw [rngF, List.cons_append, rsc, rsc_rng d (f + 1) (a + 1) t c]
    by_cases h : f = c
    · subst h
      rw [if_pos rfl, if_pos (by omega), Int.sub_self, Int.add_zero]
    · rw [if_neg h]
      by_cases h2 : f + 1 ≤ c ∧ c < f + 1 + d
      · rw [if_pos h2, if_pos (by omega), show a + 1 + (c - (f + 1)) = a + (c - f) by omega]
      · rw [if_neg h2, if_neg (by omega)]
theorem rco_rng : ∀ (d : Nat) (f a : Int) (t : List S41) (u : Int), rco (rngF f a d ++ t) u = if a ≤ u ∧ u < a + d then (f + (u - a), true) else rco t u
  | 0, f, a, t, c => by
    rw [rngF, List.nil_append, if_neg (by omega)]
  | d + 1, f, a, t, c => by
    rw [rngF, List.cons_append, rco, rco_rng d (f + 1) (a + 1) t c]
    by_cases h : a = c
    · subst h
      rw [if_pos rfl, if_pos (by omega), Int.sub_self, Int.add_zero]
    · rw [if_neg h]
      by_cases h2 : a + 1 ≤ c ∧ c < a + 1 + d
      · rw [if_pos h2, if_pos (by omega), show f + 1 + (c - (a + 1)) = f + (c - a) by omega]
      · rw [if_neg h2, if_neg (by omega)]
theorem rsc_prs : ∀ (l : List S44) (last c : Int), Srt last l → rsc (prs l) c = scOf l c
  | [], _, _, _ => rfl
  | x :: t, last, c, hs => by
    have h2 := hs.1.2.2.1
    rw [prs, rsc_rng, scOf, rsc_prs t x.f1 c hs.2.2]
    by_cases h : x.f0 ≤ c ∧ c ≤ x.f1
    · rw [if_pos h, if_pos (by omega)]
    · rw [if_neg h, if_neg (by omega)]
theorem rco_prs : ∀ (l : List S44) (last u : Int), Srt last l → rco (prs l) u = coOf l u
  | [], _, _, _ => rfl
  | x :: t, last, u, hs => by
    have h2 := hs.1.2.2.1
    rw [prs, rco_rng, coOf, rco_prs t x.f1 u hs.2.2]
    by_cases h : 0 ≤ u - x.f2 ∧ u - x.f2 ≤ x.f1 - x.f0
    · rw [if_pos h, if_pos (by omega)]
    · rw [if_neg h, if_neg (by omega)]
theorem rd41 (l : List S41) (i : Nat) (p : S41) (t : List S41) (h : l.drop i = p :: t) : rd_T41 l (i : Int) = p := by
  unfold rd_T41
  rw [Int.toNat_natCast]
  have hi : l[i]? = some p := by
    have := List.getElem?_drop (xs := l) (i := i) (j := 0)
    rw [h] at this
    simpa using this.symm
  simp [List.getD_eq_getElem?_getD, hi]
theorem drop_lt41 (l : List S41) (i : Nat) (p : S41) (t : List S41) (h : l.drop i = p :: t) : i < l.length ∧ l.drop (i + 1) = t := by
  have h1 : i < l.length := by
    rcases Nat.lt_or_ge i l.length with h1 | h1
    · exact h1
    · rw [List.drop_eq_nil_of_le h1] at h
      cases h
  refine ⟨h1, ?_⟩
  rw [← List.drop_drop, h]
  rfl
def Dom (p : S41) : Prop := (-9223372036854775808 ≤ p.f0 ∧ p.f0 ≤ 9223372036854775807) ∧ -2147483648 ≤ p.f1 ∧ p.f1 ≤ 2147483647
def okp (last : Int) (p : S41) : Prop := last < p.f0 ∧ p.f0 ≤ 16777215 ∧ Scal p.f1
instance (last : Int) (p : S41) : Decidable (okp last p) := inferInstanceAs (Decidable (_ ∧ _))
def lst (out : List S44) : S44 := out.getD (out.length - 1) z44
def goes (out : List S44) (p : S41) : Prop := 0 < out.length ∧ (lst out).f1 + 1 = p.f0 ∧ p.f1 - (lst out).f2 = p.f0 - (lst out).f0
instance (out : List S44) (p : S41) : Decidable (goes out p) := inferInstanceAs (Decidable (_ ∧ _))
def step (out : List S44) (p : S41) : List S44 :=
  if goes out p then out.set (out.length - 1) ⟨(lst out).f0, p.f0, (lst out).f2⟩ else out ++ [⟨p.f0, p.f0, p.f1⟩]
theorem lst_append (out : List S44) (x : S44) : lst (out ++ [x]) = x := by
  simp [lst, List.getD_eq_getElem?_getD]
theorem lst_set (out : List S44) (x : S44) (h : 0 < out.length) : lst (out.set (out.length - 1) x) = x := by
  have : out.length - 1 < out.length := by omega
  simp [lst, List.getD_eq_getElem?_getD, this]
theorem pk_rd44 (out : List S44) (h : 0 < out.length) (hb : out.length ≤ 65536) : rd_T44 out (wrap64 ((out.length : Int) - 1)) = lst out := by
  rw [w64 _ (by omega)]
  unfold rd_T44 lst
  congr 1
  omega
/-- What is known of the ranges so far. -/
def Inv (i : Nat) (last : Int) (out : List S44) : Prop :=
  out.length ≤ i ∧ -1 ≤ last ∧ last ≤ 16777215 ∧ (i = 0 → last = -1) ∧ (0 < i → 0 < out.length) ∧ (0 < out.length → (lst out).f1 = last ∧ 0 ≤ (lst out).f0 ∧ (lst out).f0 ≤ 16777215 ∧ Scal (lst out).f2)
theorem step_inv {i : Nat} {last : Int} {out : List S44} {p : S41} (h : Inv i last out) (ho : okp last p) : Inv (i + 1) p.f0 (step out p) := by
  obtain ⟨h1, h2, h3, h4, h5, h6⟩ := h
  obtain ⟨o1, o2, o3⟩ := ho
  unfold step
  split
  · rename_i hg
    obtain ⟨g1, g2, g3⟩ := hg
    have h7 := h6 g1
    refine ⟨by rw [List.length_set]; omega, by omega, by omega, by omega, by rw [List.length_set]; omega, fun _ => ?_⟩
    rw [lst_set _ _ g1]
    exact ⟨rfl, h7.2⟩
  · refine ⟨by rw [List.length_append, List.length_singleton]; omega, by omega, by omega, by omega, by rw [List.length_append, List.length_singleton]; omega, fun _ => ?_⟩
    rw [lst_append]
    exact ⟨rfl, by show 0 ≤ p.f0; omega, o2, o3⟩
def spec : Int → List S44 → List S41 → List S44 × Int
  | _, out, [] => (out, 0)
  | last, out, p :: t => if okp last p then spec p.f0 (step out p) t else ([], 3)
theorem j1_step {k i : Nat} {last : Int} {out : List S44} {p : S41} (l : List S41) (n : Int) (hi : i < 65536) (h : Inv i last out) (ho : okp last p) (hd : Dom p) :
    ranges_Pack.j1 (k + 1) out last l n (i : Int) false p.f0 p.f1 = ranges_Pack.l0 k (step out p) p.f0 l n ((i + 1 : Nat) : Int) := by
  obtain ⟨h1, h2, h3, h4, h5, h6⟩ := h
  obtain ⟨o1, o2, o3⟩ := ho
  obtain ⟨d1, d2⟩ := hd
  have hw : wrap64 ((i : Int) + 1) = ((i + 1 : Nat) : Int) := by rw [w64 _ (by omega)]; omega
  rw [ranges_Pack.j1, if_neg (by decide), hw]
  unfold step
  by_cases g0 : 0 < out.length
  · obtain ⟨e1, e2, e3, e4⟩ := h6 g0
    obtain ⟨s1, s2, _⟩ := e4
    rw [if_pos (by omega)]
    rw [w64 (last + 1) (by omega)]
    by_cases g1 : p.f0 = last + 1
    · rw [if_pos g1, w64 ((out.length : Int) - 1) (by omega), if_pos (by omega), if_pos (by omega)]
      have hr := pk_rd44 out g0 (by omega)
      rw [w64 ((out.length : Int) - 1) (by omega)] at hr
      rw [hr, w64 p.f1 (by omega), w64 (lst out).f2 (by omega), w64 (p.f1 - (lst out).f2) (by omega), w64 (p.f0 - (lst out).f0) (by omega)]
      by_cases g2 : p.f1 - (lst out).f2 = p.f0 - (lst out).f0
      · rw [if_pos g2, if_pos ⟨g0, by omega, g2⟩]
        congr 2
        omega
      · rw [if_neg g2, if_pos (show out.length < 5864062014805 by omega), if_neg (fun hg => g2 hg.2.2)]
    · rw [if_neg g1, if_pos (show out.length < 5864062014805 by omega), if_neg (fun hg => g1 (by have := hg.2.1; omega))]
  · rw [if_neg (by omega), if_pos (show out.length < 5864062014805 by omega), if_neg (fun hg => g0 hg.1)]
theorem rp : ∀ (r : List S41) (k i : Nat) (out : List S44) (last : Int) (l : List S41), l.length ≤ 65536 → l.drop i = r → i ≤ l.length → 2 * r.length + 1 ≤ k → Inv i last out → (∀ p ∈ r, Dom p) →
    ranges_Pack.l0 k out last l (l.length : Int) (i : Int) = some (spec last out r)
  | [], k, i, out, last, l, hl, hr, hi, hk, h, hd => by
    obtain ⟨k, rfl⟩ : ∃ m, k = m + 1 := ⟨k - 1, by simp at hk; omega⟩
    have h1 := congrArg List.length hr
    rw [List.length_drop, List.length_nil] at h1
    rw [ranges_Pack.l0, if_neg (by omega)]
    rfl
  | p :: t, k, i, out, last, l, hl, hr, hi, hk, h, hd => by
    rw [List.length_cons] at hk
    obtain ⟨k, rfl⟩ : ∃ m, k = m + 2 := ⟨k - 2, by omega⟩
    obtain ⟨hlt, hdr⟩ := drop_lt41 l i p t hr
    rw [ranges_Pack.l0, if_pos (by omega), if_pos (by omega), if_pos (by omega), rd41 l i p t hr, scal_f]
    by_cases g1 : p.f0 ≤ last
    · rw [if_pos g1, ranges_Pack.j1, if_pos rfl, spec, if_neg (fun ho => by have := ho.1; omega)]
    · rw [if_neg g1]
      by_cases g2 : p.f0 > 16777215
      · rw [if_pos g2, ranges_Pack.j1, if_pos rfl, spec, if_neg (fun ho => by have := ho.2.1; omega)]
      · rw [if_neg g2]
        show ranges_Pack.j1 (k + 1) out last l (l.length : Int) (i : Int) (!decide (Scal p.f1)) p.f0 p.f1 = _
        by_cases g3 : Scal p.f1
        · have ho : okp last p := ⟨by omega, by omega, g3⟩
          rw [decide_eq_true g3]
          show ranges_Pack.j1 (k + 1) out last l (l.length : Int) (i : Int) false p.f0 p.f1 = _
          rw [j1_step l _ (by omega) h ho (hd p (by simp)), rp t k (i + 1) _ _ l hl hdr (by omega) (by omega) (step_inv h ho) (fun q hq => hd q (by simp [hq])), spec, if_pos ho]
        · rw [decide_eq_false g3]
          show ranges_Pack.j1 (k + 1) out last l (l.length : Int) (i : Int) true p.f0 p.f1 = _
          rw [ranges_Pack.j1, if_pos rfl, spec, if_neg (fun ho => g3 ho.2.2)]
/-- Are all right? -/
def allok : Int → List S41 → Prop
  | _, [] => True
  | last, p :: t => okp last p ∧ allok p.f0 t
instance : ∀ (last : Int) (r : List S41), Decidable (allok last r)
  | _, [] => inferInstanceAs (Decidable True)
  | last, p :: t => have := instDecidableAllok p.f0 t; inferInstanceAs (Decidable (okp last p ∧ allok p.f0 t))
def packs : List S44 → List S41 → List S44
  | out, [] => out
  | out, p :: t => packs (step out p) t
theorem spec_packs : ∀ (r : List S41) (last : Int) (out : List S44), spec last out r = if allok last r then (packs out r, 0) else ([], 3)
  | [], _, _ => rfl
  | p :: t, last, out => by
    rw [spec]
    by_cases ho : okp last p
    · rw [if_pos ho, spec_packs t]
      by_cases ht : allok p.f0 t
      · rw [if_pos ht, if_pos ⟨ho, ht⟩]
        rfl
      · rw [if_neg ht, if_neg (fun h => ht h.2)]
    · rw [if_neg ho, if_neg (fun h => ho h.1)]
theorem packs_len : ∀ (r : List S41) (out : List S44), (packs out r).length ≤ out.length + r.length
  | [], out => by simp [packs]
  | p :: t, out => by
    have h := packs_len t (step out p)
    have h2 : (step out p).length ≤ out.length + 1 := by
      unfold step
      split
      · rw [List.length_set]; omega
      · rw [List.length_append, List.length_singleton]; omega
    rw [packs, List.length_cons]
    omega
end Go.Proofs.Ytnapldildjnchaa.PRangesSplit
