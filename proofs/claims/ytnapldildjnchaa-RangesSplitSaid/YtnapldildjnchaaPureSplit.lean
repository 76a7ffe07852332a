/- RangesSplit, plainly: a table whose ranges are cut tells the same; and its walk. -/
import Derived.Test.YtnapldildjnchaaPqSplit
import Derived.Test.YtnapldildjnchaaOpenR
import Derived.OpenShut
namespace Go.Proofs.Ytnapldildjnchaa.PRangesSplit
open Go.RowKit Go.Proofs.YtnapldildjnchaaW.PrintWords Go.Proofs.YtnapldildjnchaaW.PrintLast Go.Proofs.YtnapldildjnchaaW.PrintMore
set_option linter.unusedVariables false
theorem works_f (k : Nat) : dragomanlaw06_works.f (20 + k) = some true := by
  have h : dragomanlaw06_works.f 20 = some true := by decide +kernel
  induction k with
  | zero => exact h
  | succ k ih => exact dragomanlaw06_works.mono _ _ ih
/-- A range, whole or cut in two. -/
def Cut (x : S44) (ps : List S44) : Prop := ps = [x] ∨ ∃ m : Int, x.f0 ≤ m ∧ m < x.f1 ∧ ps = [⟨x.f0, m, x.f2⟩, ⟨m + 1, x.f1, x.f2 + (m + 1 - x.f0)⟩]
inductive Cuts : List S44 → List S44 → Prop
  | nil : Cuts [] []
  | cons {x : S44} {ps t u : List S44} : Cut x ps → Cuts t u → Cuts (x :: t) (ps ++ u)
theorem rngF_add : ∀ (d e : Nat) (f a : Int), rngF f a (d + e) = rngF f a d ++ rngF (f + d) (a + d) e
  | 0, e, f, a => by
    rw [Nat.zero_add, rngF, List.nil_append, show f + ((0 : Nat) : Int) = f by omega, show a + ((0 : Nat) : Int) = a by omega]
  | d + 1, e, f, a => by
    rw [show d + 1 + e = (d + e) + 1 by omega, rngF, rngF_add d e (f + 1) (a + 1), rngF, List.cons_append, show f + 1 + (d : Int) = f + ((d + 1 : Nat) : Int) by omega, show a + 1 + (d : Int) = a + ((d + 1 : Nat) : Int) by omega]
theorem prs_append : ∀ (a b : List S44), prs (a ++ b) = prs a ++ prs b
  | [], b => rfl
  | x :: t, b => by rw [List.cons_append, prs, prs, prs_append t b, List.append_assoc]
theorem cuts_all : ∀ (l t : List S44) (last : Int), Cuts l t → Srt last l → prs t = prs l ∧ Srt last t ∧ t.length ≤ 2 * l.length := by
  intro l t last h
  induction h generalizing last with
  | nil => intro _; exact ⟨rfl, trivial, Nat.le_refl _⟩
  | @cons x ps t u hc _ ih =>
    rintro ⟨hx, hlt, hs⟩
    obtain ⟨h1, h2, h3⟩ := ih x.f1 hs
    rcases hc with rfl | ⟨m, m0, m1, rfl⟩
    · refine ⟨?_, ⟨hx, hlt, h2⟩, ?_⟩
      · show rngF x.f0 x.f2 _ ++ prs u = rngF x.f0 x.f2 _ ++ prs t
        rw [h1]
      · simp
        omega
    · have q1 := scal_mid hx (m - x.f0) (by omega) (by omega)
      have q2 := scal_mid hx (m + 1 - x.f0) (by omega) (by omega)
      obtain ⟨a0, a1, a2, a3, a4, a5⟩ := hx
      have a3' := a3
      obtain ⟨b0, b1, b2⟩ := a3
      have r1 : Rt ⟨x.f0, m, x.f2⟩ := by
        refine ⟨a0, by show m ≤ 16777215; omega, m0, a3', by show Scal (x.f2 + m - x.f0); rw [show x.f2 + m - x.f0 = x.f2 + (m - x.f0) by omega]; exact q1, ?_⟩
        show x.f2 < 55296 ↔ x.f2 + m - x.f0 < 55296
        constructor
        · intro h
          have := a5.1 h
          omega
        · intro h
          omega
      have r2 : Rt ⟨m + 1, x.f1, x.f2 + (m + 1 - x.f0)⟩ := by
        refine ⟨by show 0 ≤ m + 1; omega, a1, by show m + 1 ≤ x.f1; omega, q2, by show Scal (x.f2 + (m + 1 - x.f0) + x.f1 - (m + 1)); rw [show x.f2 + (m + 1 - x.f0) + x.f1 - (m + 1) = x.f2 + x.f1 - x.f0 by omega]; exact a4, ?_⟩
        show x.f2 + (m + 1 - x.f0) < 55296 ↔ x.f2 + (m + 1 - x.f0) + x.f1 - (m + 1) < 55296
        rw [show x.f2 + (m + 1 - x.f0) + x.f1 - (m + 1) = x.f2 + x.f1 - x.f0 by omega]
        constructor
        · intro h
          exact a5.1 (by omega)
        · intro h
          omega
      refine ⟨?_, ⟨r1, hlt, r2, by show m < m + 1; omega, h2⟩, ?_⟩
      · show rngF x.f0 x.f2 (m - x.f0 + 1).toNat ++ (rngF (m + 1) (x.f2 + (m + 1 - x.f0)) (x.f1 - (m + 1) + 1).toNat ++ prs u) = rngF x.f0 x.f2 (x.f1 - x.f0 + 1).toNat ++ prs t
        rw [h1, ← List.append_assoc, show (x.f1 - x.f0 + 1).toNat = (m - x.f0 + 1).toNat + (x.f1 - (m + 1) + 1).toNat by omega, rngF_add]
        have e1 : x.f0 + ((m - x.f0 + 1).toNat : Int) = m + 1 := by omega
        have e2 : x.f2 + ((m - x.f0 + 1).toNat : Int) = x.f2 + (m + 1 - x.f0) := by omega
        rw [e1, e2]
      · simp
        omega
theorem split_l0 (l : List S44) (cs : List Int) (c : Int) (hl : l.length ≤ 65536) (r : List S44) : ∀ (i : Nat) (acc : List S44) (last : Int), l.drop i = r → i ≤ l.length → Srt last r → acc.length ≤ 2 * i →
    ∃ u, Cuts r u ∧ ∀ k, dragomanlaw06_RangesSplit.l0 (k + 1 + r.length) l cs c acc (i : Int) = dragomanlaw06_RangesSplit.l0 (k + 1) l cs c (acc ++ u) (l.length : Int) := by
  induction r with
  | nil =>
    intro i acc last hr hi hs hacc
    refine ⟨[], .nil, fun k => ?_⟩
    have h1 := congrArg List.length hr
    rw [List.length_drop, List.length_nil] at h1
    obtain rfl : i = l.length := by omega
    rw [List.append_nil]
    rfl
  | cons p t ih =>
    intro i acc last hr hi hs hacc
    obtain ⟨hp, hlt, hs'⟩ := hs
    obtain ⟨h1, h2⟩ := drop_lt l i p t hr
    have hrd := rd44 l i p t hr
    obtain ⟨a0, a1, a2, a3, a4, a5⟩ := hp
    obtain ⟨b0, b1, _⟩ := a3
    obtain ⟨b2, b3, _⟩ := a4
    have whole : ∀ k, dragomanlaw06_RangesSplit.l0 (k + 1 + (t.length + 1)) l cs c acc (i : Int) = dragomanlaw06_RangesSplit.l0 (k + 1 + t.length) l cs c (acc ++ [p]) ((i + 1 : Nat) : Int) → True := fun _ _ => trivial
    have e1 : wrap64 ((i : Int) + 1) = ((i + 1 : Nat) : Int) := by rw [w64 _ (by omega)]; omega
    by_cases hcut : (i : Int) < (cs.length : Int) ∧ p.f1 > p.f0
    · obtain ⟨c1, c2⟩ := hcut
      have e2 : IntKind.u64.wrap (wrap64 (p.f1 - p.f0)) = p.f1 - p.f0 := by
        rw [w64 _ (by omega), IntKind.wrap_u64]
        omega
      have n0 : 0 ≤ IntKind.u64.wrap (rd cs (i : Int)) := by
        rw [IntKind.wrap_u64]
        omega
      obtain ⟨z, hz⟩ : ∃ z, z = Int.tmod (IntKind.u64.wrap (rd cs (i : Int))) (p.f1 - p.f0) := ⟨_, rfl⟩
      have z0 : 0 ≤ z := by rw [hz]; exact Int.tmod_nonneg _ n0
      have z1 : z < p.f1 - p.f0 := by rw [hz]; exact Int.tmod_lt_of_pos _ (by omega)
      obtain ⟨u, hu1, hu2⟩ := ih (i + 1) (acc ++ [⟨p.f0, p.f0 + z, p.f2⟩] ++ [⟨p.f0 + z + 1, p.f1, p.f2 + (p.f0 + z + 1 - p.f0)⟩]) p.f1 h2 (by omega) hs' (by simp; omega)
      refine ⟨_, .cons (.inr ⟨p.f0 + z, by omega, by omega, rfl⟩) hu1, fun k => ?_⟩
      rw [List.length_cons, show k + 1 + (t.length + 1) = (k + 1 + t.length) + 1 by omega, dragomanlaw06_RangesSplit.l0, if_pos (by omega), if_pos (by omega), hrd, if_pos c1, if_pos c2, e2, if_neg (by omega), if_pos (by omega), ← hz, Option.bind_some, if_pos (by rw [List.length_append, List.length_singleton]; omega)]
      rw [w64 z (by omega), w64 (p.f0 + z) (by omega), w64 (p.f0 + z + 1) (by omega), w64 (p.f0 + z + 1 - p.f0) (by omega), w32 (p.f0 + z + 1 - p.f0) (by omega), w32 _ (by omega), e1, hu2 k, List.append_assoc, List.append_assoc]
      rfl
    · obtain ⟨u, hu1, hu2⟩ := ih (i + 1) (acc ++ [p]) p.f1 h2 (by omega) hs' (by simp; omega)
      refine ⟨_, .cons (.inl rfl) hu1, fun k => ?_⟩
      rw [List.length_cons, show k + 1 + (t.length + 1) = (k + 1 + t.length) + 1 by omega, dragomanlaw06_RangesSplit.l0, if_pos (by omega), if_pos (by omega), hrd]
      have hfin : (if acc.length < 5864062014805 then dragomanlaw06_RangesSplit.l0 (k + 1 + t.length) l cs c (acc ++ [(⟨p.f0, p.f1, p.f2⟩ : S44)]) (wrap64 ((i : Int) + 1)) else none) = dragomanlaw06_RangesSplit.l0 (k + 1) l cs c (acc ++ ([p] ++ u)) (l.length : Int) := by
        rw [if_pos (by omega), e1]
        have := hu2 k
        rw [List.append_assoc] at this
        exact this
      by_cases c1 : (i : Int) < (cs.length : Int)
      · rw [if_pos c1, if_neg (fun h => hcut ⟨c1, h⟩)]
        exact hfin
      · rw [if_neg c1]
        exact hfin
theorem srt_dm {l : List S44} {last : Int} (hs : Srt last l) : ∀ x ∈ l, Dm x := fun x hx => by
  obtain ⟨_, _, _, _, ⟨b0, b1, _⟩, _⟩ := srt_lt l last hs x hx
  exact ⟨by omega, by omega⟩
theorem split_end (l t : List S44) (cs : List Int) (c : Int) (hc : -9223372036854775808 ≤ c ∧ c ≤ 9223372036854775807) (h0 : chk l = 0) (ht : Cuts l t) (k : Nat) (hk : 600000 ≤ k) : dragomanlaw06_RangesSplit.l0 (k + 1) l cs c t (l.length : Int) = some true := by
  obtain ⟨hs, hcn, hl⟩ := chk_srt h0
  obtain ⟨h1, h2, h3⟩ := cuts_all l t (-1) ht hs
  rw [dragomanlaw06_RangesSplit.l0, if_neg (by omega)]
  by_cases hb : (t.length : Int) > 65536
  · rw [if_pos hb]
  · rw [if_neg hb]
    have hlen := prs_len l (-1) hs
    have hlen2 := prs_len t (-1) h2
    rw [h1] at hlen2
    have hct : chk t = 0 := by
      unfold chk
      rw [if_neg hb]
      exact srt_chks t 0 (-1) h2 (by omega)
    have p1 : prsOf t = prs l := by unfold prsOf; rw [if_pos hct, h1]
    have p2 : prsOf l = prs l := by unfold prsOf; rw [if_pos h0]
    have hpk : ranges_Pack.f k (prs l) = some (packs [] (prs l), 0) := by
      rw [pack_f (prs l) (prs_dom l (-1) hs) k (by omega), if_neg (by omega), if_pos (allok_prs l (-1) hs)]
    have h5 := packs_prs l (-1) [] hs
    rw [List.length_nil, Nat.zero_add] at h5
    have hsc : scOf t c = scOf l c := by rw [← rsc_prs t (-1) c h2, ← rsc_prs l (-1) c hs, h1]
    have q1 := pairs_f t (srt_dm h2) k (by omega)
    have q2 := pairs_f l (srt_dm hs) k (by omega)
    rw [p1] at q1
    rw [p2] at q2
    rw [scalar_f l (-1) hs hl c hc k (by omega), Option.bind_some, scalar_f t (-1) h2 (by omega) c hc k (by omega), Option.bind_some, hsc, q1, Option.bind_some, hpk, Option.bind_some, check_f t (srt_dm h2) k (by omega), Option.bind_some, hct, if_pos rfl, if_pos rfl, if_pos (by simp), if_pos rfl]
    show (if ((packs [] (prs l)).length : Int) ≤ (l.length : Int) then _ else _) = _
    rw [if_pos (by omega), Option.bind_some, q2, Option.bind_some]
    simp
theorem split_true (l : List S44) (cs : List Int) (c : Int) (hd : ∀ x ∈ l, Dm x) (hc : -9223372036854775808 ≤ c ∧ c ≤ 9223372036854775807) (k : Nat) (hk : l.length + 700000 ≤ k) : dragomanlaw06_RangesSplit.f k l cs c = some true := by
  unfold dragomanlaw06_RangesSplit.f
  obtain ⟨m, hm⟩ : ∃ m, k = 20 + m := ⟨k - 20, by omega⟩
  rw [hm, works_f, ← hm, Option.bind_some, if_pos rfl, check_f l hd k (by omega), Option.bind_some]
  by_cases h0 : chk l = 0
  · rw [if_pos h0]
    obtain ⟨hs, hcn, hl⟩ := chk_srt h0
    obtain ⟨u, hu1, hu2⟩ := split_l0 l cs c hl l 0 [] (-1) rfl (Nat.zero_le _) hs (Nat.zero_le _)
    have := hu2 (k - 1 - l.length)
    rw [show k - 1 - l.length + 1 + l.length = k by omega, List.nil_append] at this
    rw [show ((0 : Nat) : Int) = 0 from rfl] at this
    rw [this]
    exact split_end l u cs c hc h0 hu1 (k - 1 - l.length) (by omega)
  · rw [if_neg h0]
def mk44 (p : Int × Int × Int) : S44 := ⟨p.1, p.2.1, p.2.2⟩
theorem row44 {w : World} {a : Option Addr} {len cap : Nat} {l : List (Int × Int × Int)} (h : Rp.Row w 3 Rp.RangeK Rp.RangeD a len cap l) : Kd.C k44 w a (l.map mk44).length (l.map mk44) := by
  obtain ⟨h1, h2, h3, h4, _⟩ := h
  refine ⟨rfl, ?_, fun hp => ?_⟩
  · have : maxLen = 9223372036854775807 := rfl
    rw [List.length_map]
    omega
  · rw [List.length_map] at hp
    obtain ⟨x, rfl, hx⟩ := h4 (by omega)
    refine ⟨x, rfl, fun j p hj => ?_⟩
    rw [List.getElem?_map] at hj
    obtain ⟨q, hq, rfl⟩ := Option.map_eq_some_iff.1 hj
    exact ⟨_, rfl, k44_mk w (mk44 q), fun i u hu => hx j q hq i u hu⟩
theorem split_walk (w : World) (a : Option Addr) (len cap : Nat) (l : List (Int × Int × Int)) (h : Rp.Row w 3 Rp.RangeK Rp.RangeD a len cap l) (hl : len * 24 ≤ 140737488351232) (b : Option Addr) (len2 cap2 : Nat) (zs : List Int) (h2 : (b = none ∧ len2 = 0 ∧ cap2 = 0 ∧ zs = []) ∨ ∃ x, b = some x ∧ len2 ≤ cap2 ∧ cap2 ≤ maxLen ∧ zs.length = cap2 ∧ (∀ i, i < zs.length → w.cell? (x.add i) = some (.int .i64 (zs.getD i 0))) ∧ ∀ n ∈ zs, (Lit.int .i64 n).wf = true) (hl2 : len2 * 8 ≤ 140737488351232) (c : Int) (wc : (Lit.int .i64 c).wf = true) :
    Calls Try.prog 7 #[.slice a len cap, .slice b len2 cap2, .int .i64 c] w fun e w' => e = .returned (.bool true) ∧ Below w.heap.size w w' := by
  have hC := row44 h
  have e : (l.map mk44).length = len := by rw [List.length_map]; exact h.1
  obtain ⟨cs, rfl, hR, _, _, hcc⟩ := ReadsInt.ofRowC h2
  have := dragomanlaw06_RangesSplit.calls ((l.map mk44).length + 700000) a cap (l.map mk44) b cap2 cs c true w hC (by rw [e]; exact h.2.1) (Kd.C_of_reads (d := (0 : Int)) hR) hcc (split_true (l.map mk44) cs c (fun p hp => by
    obtain ⟨q, hq, rfl⟩ := List.mem_map.1 hp
    exact bounds_i32 (h.2.2.2.2 q hq).2.2) (bounds_i64 wc) _ (Nat.le_refl _))
  rw [e] at this
  exact this
end Go.Proofs.Ytnapldildjnchaa.PRangesSplit
