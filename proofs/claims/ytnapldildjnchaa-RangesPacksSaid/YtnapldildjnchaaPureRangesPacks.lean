/- RangesPacks, plainly: both make the same table of pairs, or refuse them alike. -/
import Derived.Test.YtnapldildjnchaaPRangesPacksx
namespace Go.Proofs.Ytnapldildjnchaa.Rp
open Go.RowKit Go.Proofs.Ytnapldildjnchaa.PRangesPacks
def Scal (u : Int) : Prop := 0 ≤ u ∧ u ≤ 1114111 ∧ ¬ (55296 ≤ u ∧ u ≤ 57343)
instance (u : Int) : Decidable (Scal u) := inferInstanceAs (Decidable (_ ∧ _))
theorem ucs_scalar (u : Int) : ucs_Scalar.f u = some (decide (Scal u)) := by
  unfold ucs_Scalar.f ucs_High.f ucs_Low.f Scal
  by_cases h0 : u ≥ 0 <;> by_cases h1 : u ≤ 1114111 <;> by_cases h2 : u ≥ 55296 <;> by_cases h3 : u < 56320 <;> by_cases h5 : u ≤ 57343 <;> by_cases h4 : u ≥ 56320 <;> simp [h0, h1, h2, h3, h4, h5] <;> omega
theorem ref_scalar (u : Int) : dragomanref01_Scalar.f u = some (decide (Scal u)) := by
  unfold dragomanref01_Scalar.f Scal
  by_cases h0 : u ≥ 0 <;> by_cases h1 : u ≤ 1114111 <;> by_cases h2 : u < 55296 <;> by_cases h5 : u > 57343 <;> simp [h0, h1, h2, h5] <;> omega
theorem w64 (n : Int) (h : -9223372036854775808 ≤ n ∧ n ≤ 9223372036854775807) : wrap64 n = n := by
  unfold wrap64
  omega
def Dom (p : S41) : Prop := (-9223372036854775808 ≤ p.f0 ∧ p.f0 ≤ 9223372036854775807) ∧ -2147483648 ≤ p.f1 ∧ p.f1 ≤ 2147483647
def okp (last : Int) (p : S41) : Prop := last < p.f0 ∧ p.f0 ≤ 16777215 ∧ Scal p.f1
instance (last : Int) (p : S41) : Decidable (okp last p) := inferInstanceAs (Decidable (_ ∧ _))
def lst (out : List S44) : S44 := out.getD (out.length - 1) z44
def goes (out : List S44) (p : S41) : Prop := 0 < out.length ∧ (lst out).f1 + 1 = p.f0 ∧ p.f1 - (lst out).f2 = p.f0 - (lst out).f0
instance (out : List S44) (p : S41) : Decidable (goes out p) := inferInstanceAs (Decidable (_ ∧ _))
def step (out : List S44) (p : S41) : List S44 :=
  if goes out p then out.set (out.length - 1) ⟨(lst out).f0, p.f0, (lst out).f2⟩ else out ++ [⟨p.f0, p.f0, p.f1⟩]
theorem lst_append (out : List S44) (x : S44) : lst (out ++ [x]) = x := by
  simp [lst, List.getD_eq_getElem?_getD]
theorem lst_set (out : List S44) (x : S44) (h : 0 < out.length) : lst (out.set (out.length - 1) x) = x := by
  have : out.length - 1 < out.length := by omega
  simp [lst, List.getD_eq_getElem?_getD, this]
theorem rd44 (out : List S44) (h : 0 < out.length) (hb : out.length ≤ 65536) : rd_T44 out (wrap64 ((out.length : Int) - 1)) = lst out := by
  rw [w64 _ (by omega)]
  unfold rd_T44 lst
  congr 1
  omega
theorem rd41 (l : List S41) (i : Nat) (p : S41) (t : List S41) (h : l.drop i = p :: t) : rd_T41 l (i : Int) = p := by
  unfold rd_T41
  have := congrArg (fun l : List S41 => l[0]?) h
  simp only [List.getElem?_drop, Nat.add_zero, List.getElem?_cons_zero] at this
  rw [Int.toNat_natCast, List.getD_eq_getElem?_getD, this]
  rfl
theorem drop_lt (l : List S41) (i : Nat) (p : S41) (t : List S41) (h : l.drop i = p :: t) : i < l.length ∧ l.drop (i + 1) = t := by
  have h1 := congrArg List.length h
  rw [List.length_drop, List.length_cons] at h1
  refine ⟨by omega, ?_⟩
  rw [← List.drop_drop, h]
  rfl
/-- What is known of the ranges so far. -/
def Inv (i : Nat) (last : Int) (out : List S44) : Prop :=
  out.length ≤ i ∧ -1 ≤ last ∧ last ≤ 16777215 ∧ (i = 0 → last = -1) ∧ (0 < i → 0 < out.length) ∧ (0 < out.length → (lst out).f1 = last ∧ 0 ≤ (lst out).f0 ∧ (lst out).f0 ≤ 16777215 ∧ Scal (lst out).f2)
theorem step_inv {i : Nat} {last : Int} {out : List S44} {p : S41} (h : Inv i last out) (ho : okp last p) : Inv (i + 1) p.f0 (step out p) := by
  obtain ⟨h1, h2, h3, h4, h5, h6⟩ := h
  obtain ⟨o1, o2, o3⟩ := ho
  unfold step
  split
  · rename_i hg
    obtain ⟨g1, g2, g3⟩ := hg
    have h7 := h6 g1
    refine ⟨by rw [List.length_set]; omega, by omega, by omega, by omega, by rw [List.length_set]; omega, fun _ => ?_⟩
    rw [lst_set _ _ g1]
    exact ⟨rfl, h7.2⟩
  · refine ⟨by rw [List.length_append, List.length_singleton]; omega, by omega, by omega, by omega, by rw [List.length_append, List.length_singleton]; omega, fun _ => ?_⟩
    rw [lst_append]
    exact ⟨rfl, by show 0 ≤ p.f0; omega, o2, o3⟩
def spec : Int → List S44 → List S41 → List S44 × Int
  | _, out, [] => (out, 0)
  | last, out, p :: t => if okp last p then spec p.f0 (step out p) t else ([], 3)
theorem j1_step {k i : Nat} {last : Int} {out : List S44} {p : S41} (l : List S41) (n : Int) (hi : i < 65536) (h : Inv i last out) (ho : okp last p) (hd : Dom p) :
    ranges_Pack.j1 (k + 1) out last l n (i : Int) false p.f0 p.f1 = ranges_Pack.l0 k (step out p) p.f0 l n ((i + 1 : Nat) : Int) := by
  obtain ⟨h1, h2, h3, h4, h5, h6⟩ := h
  obtain ⟨o1, o2, o3⟩ := ho
  obtain ⟨d1, d2⟩ := hd
  have hw : wrap64 ((i : Int) + 1) = ((i + 1 : Nat) : Int) := by rw [w64 _ (by omega)]; omega
  rw [ranges_Pack.j1, if_neg (by decide), hw]
  unfold step
  by_cases g0 : 0 < out.length
  · obtain ⟨e1, e2, e3, e4⟩ := h6 g0
    obtain ⟨s1, s2, _⟩ := e4
    rw [if_pos (by omega)]
    rw [w64 (last + 1) (by omega)]
    by_cases g1 : p.f0 = last + 1
    · rw [if_pos g1, w64 ((out.length : Int) - 1) (by omega), if_pos (by omega), if_pos (by omega)]
      have hr := rd44 out g0 (by omega)
      rw [w64 ((out.length : Int) - 1) (by omega)] at hr
      rw [hr, w64 p.f1 (by omega), w64 (lst out).f2 (by omega), w64 (p.f1 - (lst out).f2) (by omega), w64 (p.f0 - (lst out).f0) (by omega)]
      by_cases g2 : p.f1 - (lst out).f2 = p.f0 - (lst out).f0
      · rw [if_pos g2, if_pos ⟨g0, by omega, g2⟩]
        congr 2
        omega
      · rw [if_neg g2, if_pos (show out.length < 5864062014805 by omega), if_neg (fun hg => g2 hg.2.2)]
    · rw [if_neg g1, if_pos (show out.length < 5864062014805 by omega), if_neg (fun hg => g1 (by have := hg.2.1; omega))]
  · rw [if_neg (by omega), if_pos (show out.length < 5864062014805 by omega), if_neg (fun hg => g0 hg.1)]
theorem rp : ∀ (r : List S41) (k i : Nat) (out : List S44) (last : Int) (l : List S41), l.length ≤ 65536 → l.drop i = r → i ≤ l.length → 2 * r.length + 1 ≤ k → Inv i last out → (∀ p ∈ r, Dom p) →
    ranges_Pack.l0 k out last l (l.length : Int) (i : Int) = some (spec last out r)
  | [], k, i, out, last, l, hl, hr, hi, hk, h, hd => by
    obtain ⟨k, rfl⟩ : ∃ m, k = m + 1 := ⟨k - 1, by simp at hk; omega⟩
    have h1 := congrArg List.length hr
    rw [List.length_drop, List.length_nil] at h1
    rw [ranges_Pack.l0, if_neg (by omega)]
    rfl
  | p :: t, k, i, out, last, l, hl, hr, hi, hk, h, hd => by
    rw [List.length_cons] at hk
    obtain ⟨k, rfl⟩ : ∃ m, k = m + 2 := ⟨k - 2, by omega⟩
    obtain ⟨hlt, hdr⟩ := drop_lt l i p t hr
    rw [ranges_Pack.l0, if_pos (by omega), if_pos (by omega), if_pos (by omega), rd41 l i p t hr, ucs_scalar]
    by_cases g1 : p.f0 ≤ last
    · rw [if_pos g1, ranges_Pack.j1, if_pos rfl, spec, if_neg (fun ho => by have := ho.1; omega)]
    · rw [if_neg g1]
      by_cases g2 : p.f0 > 16777215
      · rw [if_pos g2, ranges_Pack.j1, if_pos rfl, spec, if_neg (fun ho => by have := ho.2.1; omega)]
      · rw [if_neg g2]
        show ranges_Pack.j1 (k + 1) out last l (l.length : Int) (i : Int) (!decide (Scal p.f1)) p.f0 p.f1 = _
        by_cases g3 : Scal p.f1
        · have ho : okp last p := ⟨by omega, by omega, g3⟩
          rw [decide_eq_true g3]
          show ranges_Pack.j1 (k + 1) out last l (l.length : Int) (i : Int) false p.f0 p.f1 = _
          rw [j1_step l _ (by omega) h ho (hd p (by simp)), rp t k (i + 1) _ _ l hl hdr (by omega) (by omega) (step_inv h ho) (fun q hq => hd q (by simp [hq])), spec, if_pos ho]
        · rw [decide_eq_false g3]
          show ranges_Pack.j1 (k + 1) out last l (l.length : Int) (i : Int) true p.f0 p.f1 = _
          rw [ranges_Pack.j1, if_pos rfl, spec, if_neg (fun ho => g3 ho.2.2)]
/-- Are all right? -/
def allok : Int → List S41 → Prop
  | _, [] => True
  | last, p :: t => okp last p ∧ allok p.f0 t
instance : ∀ (last : Int) (r : List S41), Decidable (allok last r)
  | _, [] => inferInstanceAs (Decidable True)
  | last, p :: t => have := instDecidableAllok p.f0 t; inferInstanceAs (Decidable (okp last p ∧ allok p.f0 t))
def packs : List S44 → List S41 → List S44
  | out, [] => out
  | out, p :: t => packs (step out p) t
theorem spec_packs : ∀ (r : List S41) (last : Int) (out : List S44), spec last out r = if allok last r then (packs out r, 0) else ([], 3)
  | [], _, _ => rfl
  | p :: t, last, out => by
    rw [spec]
    by_cases ho : okp last p
    · rw [if_pos ho, spec_packs t]
      by_cases ht : allok p.f0 t
      · rw [if_pos ht, if_pos ⟨ho, ht⟩]
        rfl
      · rw [if_neg ht, if_neg (fun h => ht h.2)]
    · rw [if_neg ho, if_neg (fun h => ho h.1)]
theorem allok_cons {last : Int} {p : S41} {t : List S41} (h1 : last < p.f0) (h2 : p.f0 ≤ 16777215) : (if Scal p.f1 ∧ allok p.f0 t then (0 : Int) else 3) = if allok last (p :: t) then 0 else 3 := by
  by_cases h : Scal p.f1 ∧ allok p.f0 t
  · rw [if_pos h, if_pos ⟨⟨h1, h2, h.1⟩, h.2⟩]
  · rw [if_neg h, if_neg (fun g => h ⟨g.1.2.2, g.2⟩)]
theorem right : ∀ (r : List S41) (k i : Nat) (last : Int) (l : List S41), l.length ≤ 65536 → l.drop i = r → i ≤ l.length → r.length + 1 ≤ k → (i = 0 → last = -1) → (0 < i → last = (rd_T41 l ((i : Int) - 1)).f0) → -1 ≤ last →
    dragomanref06_Right.l0 k l (i : Int) = some (if allok last r then 0 else 3)
  | [], k, i, last, l, hl, hr, hi, hk, h0, h1, hlo => by
    obtain ⟨k, rfl⟩ : ∃ m, k = m + 1 := ⟨k - 1, by simp at hk; omega⟩
    have h1 := congrArg List.length hr
    rw [List.length_drop, List.length_nil] at h1
    rw [dragomanref06_Right.l0, if_neg (by omega)]
    rfl
  | p :: t, k, i, last, l, hl, hr, hi, hk, h0, h1, hlo => by
    rw [List.length_cons] at hk
    obtain ⟨k, rfl⟩ : ∃ m, k = m + 1 := ⟨k - 1, by omega⟩
    obtain ⟨hlt, hdr⟩ := drop_lt l i p t hr
    have hw : wrap64 ((i : Int) + 1) = ((i + 1 : Nat) : Int) := by rw [w64 _ (by omega)]; omega
    have hp := rd41 l i p t hr
    rw [dragomanref06_Right.l0, if_pos (by omega), if_pos (by omega), hp, hw]
    by_cases g0 : p.f0 < 0
    · rw [if_pos g0, if_neg]
      rintro ⟨⟨ho, _⟩, _⟩
      omega
    · rw [if_neg g0]
      have ih := right t k (i + 1) p.f0 l hl hdr (by omega) (by omega) (by omega) (fun _ => by rw [show (((i + 1 : Nat) : Int) - 1) = (i : Int) by omega, hp]) (by omega)
      have hsc : ((dragomanref01_Scalar.f p.f1).bind fun t123 => if t123 = true then some (if allok p.f0 t then (0 : Int) else 3) else some 3) = some (if Scal p.f1 ∧ allok p.f0 t then 0 else 3) := by
        rw [ref_scalar]
        show (if decide (Scal p.f1) = true then some (if allok p.f0 t then (0 : Int) else 3) else some 3) = _
        by_cases hs : Scal p.f1
        · rw [if_pos (decide_eq_true hs)]
          by_cases ht : allok p.f0 t
          · rw [if_pos ht, if_pos ⟨hs, ht⟩]
          · rw [if_neg ht, if_neg (fun h => ht h.2)]
        · rw [if_neg (by simpa using hs), if_neg (fun h => hs h.1)]
      rw [ih, hsc]
      by_cases g1 : p.f0 > 16777215
      · rw [if_pos g1, if_neg]
        rintro ⟨⟨_, ho, _⟩, _⟩
        omega
      · rw [if_neg g1]
        by_cases g2 : (i : Int) > 0
        · have hl1 := h1 (by omega)
          rw [if_pos g2, w64 ((i : Int) - 1) (by omega), if_pos (by omega), if_pos (by omega), ← hl1]
          by_cases g3 : p.f0 ≤ last
          · rw [if_pos g3, if_neg]
            rintro ⟨⟨ho, _⟩, _⟩
            omega
          · rw [if_neg g3, allok_cons (last := last) (by omega) (by omega)]
        · have hl1 := h0 (by omega)
          rw [if_neg g2, allok_cons (last := last) (by omega) (by omega)]
theorem refpack : ∀ (r : List S41) (k i : Nat) (out : List S44) (last : Int) (l : List S41), l.length ≤ 65536 → l.drop i = r → i ≤ l.length → r.length + 1 ≤ k → Inv i last out → allok last r → (∀ p ∈ r, Dom p) →
    dragomanref06_Pack.l0 k l out (i : Int) = some (packs out r, 0)
  | [], k, i, out, last, l, hl, hr, hi, hk, h, ha, hd => by
    obtain ⟨k, rfl⟩ : ∃ m, k = m + 1 := ⟨k - 1, by simp at hk; omega⟩
    have h1 := congrArg List.length hr
    rw [List.length_drop, List.length_nil] at h1
    rw [dragomanref06_Pack.l0, if_neg (by omega)]
    rfl
  | p :: t, k, i, out, last, l, hl, hr, hi, hk, h, ha, hd => by
    rw [List.length_cons] at hk
    obtain ⟨k, rfl⟩ : ∃ m, k = m + 1 := ⟨k - 1, by omega⟩
    obtain ⟨hlt, hdr⟩ := drop_lt l i p t hr
    have hw : wrap64 ((i : Int) + 1) = ((i + 1 : Nat) : Int) := by rw [w64 _ (by omega)]; omega
    have hp := rd41 l i p t hr
    obtain ⟨ho, hat⟩ := ha
    have ih := refpack t k (i + 1) (step out p) p.f0 l hl hdr (by omega) (by omega) (step_inv h ho) hat (fun q hq => hd q (by simp [hq]))
    obtain ⟨h1, h2, h3, h4, h5, h6⟩ := h
    obtain ⟨o1, o2, o3⟩ := ho
    obtain ⟨d1, d2⟩ := hd p (by simp)
    rw [dragomanref06_Pack.l0, if_pos (by omega), hp, hw]
    show _ = some (packs (step out p) t, 0)
    rw [← ih]
    unfold step
    by_cases g0 : 0 < out.length
    · obtain ⟨e1, e2, e3, e4⟩ := h6 g0
      obtain ⟨s1, s2, _⟩ := e4
      have hr := rd44 out g0 (by omega)
      rw [if_pos (by omega), hr, w64 ((out.length : Int) - 1) (by omega), if_pos (by omega), if_pos (by omega), if_pos (by omega), w64 ((lst out).f1 + 1) (by omega)]
      by_cases g1 : (lst out).f1 + 1 = p.f0
      · rw [if_pos g1, w64 p.f1 (by omega), w64 (lst out).f2 (by omega), w64 ((lst out).f2 + p.f0) (by omega), w64 ((lst out).f2 + p.f0 - (lst out).f0) (by omega)]
        by_cases g2 : p.f1 - (lst out).f2 = p.f0 - (lst out).f0
        · rw [if_pos (by omega), if_pos ⟨g0, g1, g2⟩]
          congr 2
          omega
        · rw [if_neg (by omega), if_pos (show out.length < 5864062014805 by omega), if_neg (fun hg => g2 hg.2.2)]
      · rw [if_neg g1, if_pos (show out.length < 5864062014805 by omega), if_neg (fun hg => g1 hg.2.1)]
    · rw [if_neg (by omega), if_pos (by omega), if_pos (show out.length < 5864062014805 by omega), if_neg (fun hg => g0 hg.1)]
theorem same : ∀ (m k i : Nat) (l : List S44), l.length ≤ 65536 → i + m = l.length → m + 1 ≤ k → dragomanref06_Same.l0 k l l (i : Int) = some true
  | 0, k, i, l, hl, hi, hk => by
    obtain ⟨k, rfl⟩ : ∃ m, k = m + 1 := ⟨k - 1, by omega⟩
    rw [dragomanref06_Same.l0, if_neg (by omega)]
  | m + 1, k, i, l, hl, hi, hk => by
    obtain ⟨k, rfl⟩ : ∃ m, k = m + 1 := ⟨k - 1, by omega⟩
    have hw : wrap64 ((i : Int) + 1) = ((i + 1 : Nat) : Int) := by rw [w64 _ (by omega)]; omega
    rw [dragomanref06_Same.l0, if_pos (by omega), if_pos (by omega), if_pos (by omega), if_neg (by simp), hw]
    exact same m k (i + 1) l hl (by omega) (by omega)
theorem samePairs : ∀ (m k i : Nat) (l : List S41), l.length ≤ 8796093022208 → i + m = l.length → m + 1 ≤ k → dragomanref06_SamePairs.l0 k l l (i : Int) = some true
  | 0, k, i, l, hl, hi, hk => by
    obtain ⟨k, rfl⟩ : ∃ m, k = m + 1 := ⟨k - 1, by omega⟩
    rw [dragomanref06_SamePairs.l0, if_neg (by omega)]
  | m + 1, k, i, l, hl, hi, hk => by
    obtain ⟨k, rfl⟩ : ∃ m, k = m + 1 := ⟨k - 1, by omega⟩
    have hw : wrap64 ((i : Int) + 1) = ((i + 1 : Nat) : Int) := by rw [w64 _ (by omega)]; omega
    rw [dragomanref06_SamePairs.l0, if_pos (by omega), if_pos (by omega), if_pos (by omega), if_neg (by simp), hw]
    exact samePairs m k (i + 1) l hl (by omega) (by omega)
theorem packs_len : ∀ (r : List S41) (out : List S44), (packs out r).length ≤ out.length + r.length
  | [], out => by simp [packs]
  | p :: t, out => by
    have h := packs_len t (step out p)
    have h2 : (step out p).length ≤ out.length + 1 := by
      unfold step
      split
      · rw [List.length_set]; omega
      · rw [List.length_append, List.length_singleton]; omega
    rw [packs, List.length_cons]
    omega
theorem same_f (k : Nat) (l : List S44) (hl : l.length ≤ 65536) (hk : l.length + 1 ≤ k) : dragomanref06_Same.f k l l = some true := by
  unfold dragomanref06_Same.f
  rw [if_pos rfl]
  exact same l.length k 0 l hl (by omega) hk
theorem packs_true (l : List S41) (hd : ∀ p ∈ l, Dom p) (hlen : l.length < 8796093022208) : dragomanlaw06_RangesPacks.f (2 * l.length + 2) l = some true := by
  have hsp : dragomanref06_SamePairs.f (2 * l.length + 2) l l = some true := by
    unfold dragomanref06_SamePairs.f
    rw [if_pos rfl]
    exact samePairs l.length _ 0 l (by omega) (by omega) (by omega)
  have hboth : ∃ T, ranges_Pack.f (2 * l.length + 2) l = some T ∧ dragomanref06_Pack.f (2 * l.length + 2) l = some T ∧ T.1.length ≤ l.length ∧ T.1.length ≤ 65536 := by
    unfold ranges_Pack.f dragomanref06_Pack.f dragomanref06_Right.f
    by_cases hl : (l.length : Int) > 65536
    · rw [if_pos hl, if_pos hl]
      exact ⟨_, rfl, rfl, by simp, by simp⟩
    · rw [if_neg hl, if_neg hl]
      have hI : Inv 0 (-1) ([] : List S44) := ⟨by simp, by omega, by omega, fun _ => rfl, by omega, by simp⟩
      have e1 := rp l (2 * l.length + 2) 0 [] (-1) l (by omega) (by simp) (by omega) (by omega) hI hd
      have e2 := right l (2 * l.length + 2) 0 (-1) l (by omega) (by simp) (by omega) (by omega) (fun _ => rfl) (by omega) (by omega)
      have hpl := packs_len l ([] : List S44)
      rw [List.length_nil, Nat.zero_add] at hpl
      rw [spec_packs] at e1
      by_cases ha : allok (-1) l
      · rw [if_pos ha] at e1 e2
        have e3 := refpack l (2 * l.length + 2) 0 [] (-1) l (by omega) (by simp) (by omega) (by omega) hI ha hd
        refine ⟨_, e1, ?_, by show (packs [] l).length ≤ _; omega, by show (packs [] l).length ≤ _; omega⟩
        show (dragomanref06_Right.l0 (2 * l.length + 2) l ((0 : Nat) : Int)).bind _ = _
        rw [e2]
        exact e3
      · rw [if_neg ha] at e1 e2
        refine ⟨_, e1, ?_, by simp, by simp⟩
        show (dragomanref06_Right.l0 (2 * l.length + 2) l ((0 : Nat) : Int)).bind _ = _
        rw [e2]
        rfl
  obtain ⟨T, e1, e2, e3, e4⟩ := hboth
  have hs := same_f (2 * l.length + 2) T.1 e4 (by omega)
  unfold dragomanlaw06_RangesPacks.f
  show (if 0 + l.length < 8796093022208 then _ else _) = _
  rw [if_pos (by omega)]
  show ((ranges_Pack.f (2 * l.length + 2) l).bind _) = _
  rw [e1]
  show ((dragomanref06_Pack.f (2 * l.length + 2) l).bind _) = _
  rw [e2]
  show (if T.2 = T.2 then _ else _) = _
  rw [if_pos rfl, hs]
  show (dragomanref06_SamePairs.f (2 * l.length + 2) l l).bind _ = _
  rw [hsp]
  rfl
end Go.Proofs.Ytnapldildjnchaa.Rp
