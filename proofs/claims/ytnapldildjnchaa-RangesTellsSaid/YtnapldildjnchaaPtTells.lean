/- RangesTells, plainly: the pairs of a table, and what they tell. -/
import Derived.Test.YtnapldildjnchaaPureTells
namespace Go.Proofs.Ytnapldildjnchaa.PRangesTells
open Go.RowKit Go.Proofs.YtnapldildjnchaaW.PrintWords Go.Proofs.YtnapldildjnchaaW.PrintLast Go.Proofs.YtnapldildjnchaaW.PrintMore
set_option linter.unusedVariables false
def rngF (f a : Int) : Nat → List S41
  | 0 => []
  | d + 1 => ⟨f, a⟩ :: rngF (f + 1) (a + 1) d
def prs : List S44 → List S41
  | [] => []
  | x :: t => rngF x.f0 x.f2 (x.f1 - x.f0 + 1).toNat ++ prs t
def fl : List S44 → Nat
  | [] => 1
  | x :: t => (x.f1 - x.f0 + 1).toNat + 2 + fl t
theorem rngF_len : ∀ (d : Nat) (f a : Int), (rngF f a d).length = d
  | 0, _, _ => rfl
  | d + 1, f, a => by rw [rngF, List.length_cons, rngF_len d]
theorem prs_len : ∀ (l : List S44) (last : Int), Srt last l → ((prs l).length : Int) = cnt l
  | [], _, _ => rfl
  | x :: t, last, hs => by
    obtain ⟨h1, h2, h3⟩ := hs
    have := prs_len t x.f1 h3
    have h4 := h1.2.2.1
    rw [prs, List.length_append, rngF_len, cnt]
    omega
theorem fl_le : ∀ (l : List S44) (last : Int), Srt last l → (fl l : Int) = cnt l + 2 * l.length + 1
  | [], _, _ => rfl
  | x :: t, last, hs => by
    obtain ⟨h1, h2, h3⟩ := hs
    have := fl_le t x.f1 h3
    have h4 := h1.2.2.1
    rw [fl, cnt, List.length_cons]
    omega
theorem pairs_l1 (l : List S44) (len i n f t a : Int) (h0 : 0 ≤ f) (h1 : t ≤ 16777215) (h2 : f ≤ t) (hn : n = t - f + 1) (ha : 0 ≤ a) (hb : a + t - f ≤ 1114111) : ∀ (d k : Nat) (acc : List S41) (j : Int), 0 ≤ j → j + d = n → acc.length + d ≤ 65536 →
    ranges_Pairs.l1 (k + d + 1) acc l len i n j f t a = ranges_Pairs.l0 k (acc ++ rngF (f + j) (a + j) d) l len (wrap64 (i + 1))
  | 0, k, acc, j, hj, hjn, hacc => by
    rw [ranges_Pairs.l1, if_neg (by omega), rngF, List.append_nil]
  | d + 1, k, acc, j, hj, hjn, hacc => by
    rw [show k + (d + 1) + 1 = (k + d + 1) + 1 by omega, ranges_Pairs.l1, if_pos (by omega), if_pos (by omega)]
    rw [w64 (f + j) (by omega), w32 j (by omega), w32 (a + j) (by omega), w64 (j + 1) (by omega)]
    rw [pairs_l1 l len i n f t a h0 h1 h2 hn ha hb d k (acc ++ [(⟨f + j, a + j⟩ : S41)]) (j + 1) (by omega) (by omega) (by rw [List.length_append, List.length_singleton]; omega)]
    rw [List.append_assoc, rngF, show f + (j + 1) = f + j + 1 by omega, show a + (j + 1) = a + j + 1 by omega]
    rfl
theorem pairs_l0 (l : List S44) (hl : l.length ≤ 65536) (r : List S44) : ∀ (k i : Nat) (acc : List S41) (last : Int), l.drop i = r → i ≤ l.length → Srt last r → (acc.length : Int) + cnt r ≤ 65536 → ranges_Pairs.l0 (k + fl r) acc l (l.length : Int) (i : Int) = some (acc ++ prs r) := by
  induction r with
  | nil =>
    intro k i acc last hr hi hs hacc
    have hil : ¬ ((i : Int) < (l.length : Int)) := by
      intro h
      have : 0 < (l.drop i).length := by rw [List.length_drop]; omega
      rw [hr] at this
      simp at this
    rw [show k + fl [] = k + 1 from rfl, ranges_Pairs.l0, if_neg hil, prs, List.append_nil]
  | cons p t ih =>
    intro k i acc last hr hi hs hacc
    obtain ⟨hp, hlt, hs'⟩ := hs
    obtain ⟨h1, h2⟩ := drop_lt l i p t hr
    have hrd := rd44 l i p t hr
    obtain ⟨a0, a1, a2, a3, a4, a5⟩ := hp
    obtain ⟨b0, b1, _⟩ := a3
    obtain ⟨b2, b3, _⟩ := a4
    rw [cnt] at hacc
    have hct : 0 ≤ cnt t := by have := prs_len t p.f1 hs'; omega
    rw [fl, show k + ((p.f1 - p.f0 + 1).toNat + 2 + fl t) = ((k + fl t) + (p.f1 - p.f0 + 1).toNat + 1) + 1 by omega, ranges_Pairs.l0, if_pos (by omega), if_pos (by omega), if_pos (by omega), hrd]
    rw [w64 (p.f1 - p.f0) (by omega), w64 (p.f1 - p.f0 + 1) (by omega)]
    rw [pairs_l1 l (l.length : Int) (i : Int) (p.f1 - p.f0 + 1) p.f0 p.f1 p.f2 a0 a1 a2 rfl b0 (by omega) (p.f1 - p.f0 + 1).toNat (k + fl t) acc 0 (by omega) (by omega) (by omega)]
    rw [w64 ((i : Int) + 1) (by omega), Int.add_zero, Int.add_zero]
    have := ih k (i + 1) (acc ++ rngF p.f0 p.f2 (p.f1 - p.f0 + 1).toNat) p.f1 h2 (by omega) hs' (by rw [List.length_append, rngF_len]; omega)
    rw [show ((i + 1 : Nat) : Int) = (i : Int) + 1 by omega] at this
    rw [this, prs, List.append_assoc]
theorem rpairs_l1 (l : List S44) (i : Nat) (hi : i < l.length) (h0 : 0 ≤ (rd_T44 l (i : Int)).f0) (h1 : (rd_T44 l (i : Int)).f1 ≤ 16777215) (ha : 0 ≤ (rd_T44 l (i : Int)).f2) (hb : (rd_T44 l (i : Int)).f2 + (rd_T44 l (i : Int)).f1 - (rd_T44 l (i : Int)).f0 ≤ 1114111) : ∀ (d k : Nat) (acc : List S41) (c : Int), (rd_T44 l (i : Int)).f0 ≤ c → c + d = (rd_T44 l (i : Int)).f1 + 1 → acc.length + d ≤ 65536 →
    dragomanref06_Pairs.l1 (k + d + 1) l acc (i : Int) c = dragomanref06_Pairs.l0 k l (acc ++ rngF c ((rd_T44 l (i : Int)).f2 + (c - (rd_T44 l (i : Int)).f0)) d) (wrap64 ((i : Int) + 1))
  | 0, k, acc, c, hj, hjn, hacc => by
    rw [dragomanref06_Pairs.l1, if_pos (by omega), if_pos (by omega), if_neg (by omega), rngF, List.append_nil]
  | d + 1, k, acc, c, hj, hjn, hacc => by
    rw [show k + (d + 1) + 1 = (k + d + 1) + 1 by omega, dragomanref06_Pairs.l1, if_pos (by omega), if_pos (by omega), if_pos (by omega), if_pos (by omega)]
    rw [w64 (c - _) (by omega), w32 (c - _) (by omega), w32 _ (by omega), w64 (c + 1) (by omega)]
    rw [rpairs_l1 l i hi h0 h1 ha hb d k (acc ++ [(⟨c, (rd_T44 l (i : Int)).f2 + (c - (rd_T44 l (i : Int)).f0)⟩ : S41)]) (c + 1) (by omega) (by omega) (by rw [List.length_append, List.length_singleton]; omega)]
    rw [List.append_assoc, rngF, show (rd_T44 l (i : Int)).f2 + (c + 1 - (rd_T44 l (i : Int)).f0) = (rd_T44 l (i : Int)).f2 + (c - (rd_T44 l (i : Int)).f0) + 1 by omega]
    rfl
theorem rpairs_l0 (l : List S44) (hl : l.length ≤ 65536) (r : List S44) : ∀ (k i : Nat) (acc : List S41) (last : Int), l.drop i = r → i ≤ l.length → Srt last r → (acc.length : Int) + cnt r ≤ 65536 → dragomanref06_Pairs.l0 (k + fl r) l acc (i : Int) = some (acc ++ prs r) := by
  induction r with
  | nil =>
    intro k i acc last hr hi hs hacc
    have hil : ¬ ((i : Int) < (l.length : Int)) := by
      intro h
      have : 0 < (l.drop i).length := by rw [List.length_drop]; omega
      rw [hr] at this
      simp at this
    rw [show k + fl [] = k + 1 from rfl, dragomanref06_Pairs.l0, if_neg hil, prs, List.append_nil]
  | cons p t ih =>
    intro k i acc last hr hi hs hacc
    obtain ⟨hp, hlt, hs'⟩ := hs
    obtain ⟨h1, h2⟩ := drop_lt l i p t hr
    have hrd := rd44 l i p t hr
    obtain ⟨a0, a1, a2, a3, a4, a5⟩ := hp
    obtain ⟨b0, b1, _⟩ := a3
    obtain ⟨b2, b3, _⟩ := a4
    rw [cnt] at hacc
    have hct : 0 ≤ cnt t := by have := prs_len t p.f1 hs'; omega
    rw [fl, show k + ((p.f1 - p.f0 + 1).toNat + 2 + fl t) = ((k + fl t) + (p.f1 - p.f0 + 1).toNat + 1) + 1 by omega, dragomanref06_Pairs.l0, if_pos (by omega), if_pos (by omega)]
    have hq := rpairs_l1 l i h1 (by rw [hrd]; exact a0) (by rw [hrd]; exact a1) (by rw [hrd]; exact b0) (by rw [hrd]; omega) (p.f1 - p.f0 + 1).toNat (k + fl t) acc p.f0 (by rw [hrd]; omega) (by rw [hrd]; omega) (by omega)
    rw [hrd] at hq
    rw [hrd, hq, w64 ((i : Int) + 1) (by omega), Int.sub_self, Int.add_zero]
    have := ih k (i + 1) (acc ++ rngF p.f0 p.f2 (p.f1 - p.f0 + 1).toNat) p.f1 h2 (by omega) hs' (by rw [List.length_append, rngF_len]; omega)
    rw [show ((i + 1 : Nat) : Int) = (i : Int) + 1 by omega] at this
    rw [this, prs, List.append_assoc]
def prsOf (l : List S44) : List S41 := if chk l = 0 then prs l else []
theorem pairs_f (l : List S44) (hd : ∀ x ∈ l, Dm x) (k : Nat) (hk : l.length + 200000 ≤ k) : ranges_Pairs.f k l = some (prsOf l) := by
  unfold ranges_Pairs.f prsOf
  rw [check_f l hd k (by omega), Option.bind_some]
  by_cases h : chk l = 0
  · rw [if_pos h, if_pos h]
    obtain ⟨hs, hc, hl⟩ := chk_srt h
    have hf := fl_le l (-1) hs
    have := pairs_l0 l hl l (k - fl l) 0 [] (-1) rfl (Nat.zero_le _) hs (by simpa using hc)
    rw [show k - fl l + fl l = k by omega, List.nil_append] at this
    exact this
  · rw [if_neg h, if_neg h]
theorem rpairs_f (l : List S44) (hd : ∀ x ∈ l, Dm x) (k : Nat) (hk : 2 * l.length + 200000 ≤ k) : dragomanref06_Pairs.f k l = some (prsOf l) := by
  unfold dragomanref06_Pairs.f prsOf
  rw [rcheck_f l hd k (by omega), Option.bind_some]
  by_cases h : chk l = 0
  · rw [if_pos h, if_pos h]
    obtain ⟨hs, hc, hl⟩ := chk_srt h
    have hf := fl_le l (-1) hs
    have := rpairs_l0 l hl l (k - fl l) 0 [] (-1) rfl (Nat.zero_le _) hs (by simpa using hc)
    rw [show k - fl l + fl l = k by omega, List.nil_append] at this
    exact this
  · rw [if_neg h, if_neg h]
end Go.Proofs.Ytnapldildjnchaa.PRangesTells
