/- RangesBack, plainly: the pairs of the table of some pairs are these; and its walk. -/
import Derived.Test.YtnapldildjnchaaPqBack
import Derived.Test.YtnapldildjnchaaOpenR
import Derived.OpenShut
namespace Go.Proofs.Ytnapldildjnchaa.PRangesBack
open Go.RowKit Go.Proofs.YtnapldildjnchaaW.PrintWords Go.Proofs.YtnapldildjnchaaW.PrintLast Go.Proofs.YtnapldildjnchaaW.PrintMore
set_option linter.unusedVariables false
theorem works_f (k : Nat) : dragomanlaw06_works.f (20 + k) = some true := by
  have h : dragomanlaw06_works.f 20 = some true := by decide +kernel
  induction k with
  | zero => exact h
  | succ k ih => exact dragomanlaw06_works.mono _ _ ih
theorem allok_lt : ∀ (p : List S41) (last : Int), allok last p → ∀ q ∈ p, last < q.f0 ∧ q.f0 ≤ 16777215 ∧ Scal q.f1
  | [], _, _, q, hq => by cases hq
  | x :: t, last, h, q, hq => by
    obtain ⟨⟨h1, h2, h3⟩, h4⟩ := h
    rcases List.mem_cons.1 hq with rfl | hq
    · exact ⟨h1, h2, h3⟩
    · have := allok_lt t x.f0 h4 q hq
      exact ⟨by omega, this.2⟩
theorem rsc_mem : ∀ (p : List S41) (last : Int), allok last p → ∀ q ∈ p, rsc p q.f0 = (q.f1, true)
  | [], _, _, q, hq => by cases hq
  | x :: t, last, h, q, hq => by
    unfold rsc
    rcases List.mem_cons.1 hq with rfl | hq
    · rw [if_pos rfl]
    · have := (allok_lt t x.f0 h.2 q hq).1
      rw [if_neg (by omega)]
      exact rsc_mem t x.f0 h.2 q hq
theorem rco_mem : ∀ (p : List S41) (last : Int), allok last p → ∀ q ∈ p, ∃ q' ∈ p, rco p q.f1 = (q'.f0, true) ∧ q'.f1 = q.f1 ∧ q'.f0 ≤ q.f0
  | [], _, _, q, hq => by cases hq
  | x :: t, last, h, q, hq => by
    unfold rco
    by_cases he : x.f1 = q.f1
    · rw [if_pos he]
      refine ⟨x, List.mem_cons_self, rfl, he, ?_⟩
      rcases List.mem_cons.1 hq with rfl | hq
      · exact Int.le_refl _
      · have := (allok_lt t x.f0 h.2 q hq).1
        omega
    · rw [if_neg he]
      rcases List.mem_cons.1 hq with rfl | hq
      · exact absurd rfl he
      · obtain ⟨q', h1, h2, h3, h4⟩ := rco_mem t x.f0 h.2 q hq
        exact ⟨q', List.mem_cons_of_mem _ h1, h2, h3, h4⟩
theorem back_l0 (p : List S41) (x : List S44) (hp : p.length ≤ 65536) (ha : allok (-1) p) (hs : Srt (-1) x) (hx : prs x = p) (hxl : x.length ≤ 65536) (hd : ∀ q ∈ p, Dom q) : ∀ (m k i : Nat), i + m = p.length → 2 * m + 70000 ≤ k → dragomanlaw06_RangesBack.l0 k p x (i : Int) = some true := by
  intro m
  induction m with
  | zero =>
    intro k i hi hk
    obtain ⟨k, rfl⟩ : ∃ q, k = q + 2 := ⟨k - 2, by omega⟩
    rw [dragomanlaw06_RangesBack.l0, if_neg (by omega), dragomanlaw06_RangesBack.j3, if_neg (by decide)]
  | succ m ih =>
    intro k i hi hk
    obtain ⟨k, rfl⟩ : ∃ q, k = q + 2 := ⟨k - 2, by omega⟩
    rw [dragomanlaw06_RangesBack.l0, if_pos (by omega)]
    by_cases h3 : (i : Int) < 300
    · have hget : p[i]? = some (rd_T41 p (i : Int)) := by
        unfold rd_T41
        rw [Int.toNat_natCast, List.getElem?_eq_getElem (by omega)]
        simp [List.getD_eq_getElem?_getD, List.getElem?_eq_getElem (show i < p.length by omega)]
      have hmem : rd_T41 p (i : Int) ∈ p := List.mem_of_getElem? hget
      obtain ⟨d1, d2⟩ := hd _ hmem
      have hrt : ∀ y ∈ x, Rt y := fun y hy => (srt_lt x (-1) hs y hy).2
      rw [decide_eq_true h3, dragomanlaw06_RangesBack.j3, if_pos rfl, if_pos (by omega), if_pos (by omega)]
      generalize rd_T41 p (i : Int) = q at *
      obtain ⟨q', hq', hc1, hc2, hc3⟩ := rco_mem p (-1) ha q hmem
      obtain ⟨e1, e2⟩ := hd q' hq'
      rw [scalar_f x (-1) hs hxl q.f0 d1 k (by omega), Option.bind_some, code_f x hxl q.f1 d2 hrt k (by omega), Option.bind_some]
      rw [← rsc_prs x (-1) q.f0 hs, ← rco_prs x (-1) q.f1 hs, hx, rsc_mem p (-1) ha q hmem, hc1]
      show (ranges_Scalar.f k x q'.f0).bind _ = _
      rw [scalar_f x (-1) hs hxl q'.f0 e1 k (by omega), Option.bind_some, ← rsc_prs x (-1) q'.f0 hs, hx, rsc_mem p (-1) ha q' hq', hc2]
      rw [if_pos rfl, if_pos rfl, if_pos rfl, if_neg (by show ¬ q'.f0 > q.f0; omega), if_pos rfl, if_pos rfl, w64 ((i : Int) + 1) (by omega)]
      have := ih k (i + 1) (by omega) (by omega)
      rw [show ((i + 1 : Nat) : Int) = (i : Int) + 1 by omega] at this
      exact this
    · rw [decide_eq_false h3, dragomanlaw06_RangesBack.j3, if_neg (by decide)]
theorem sameP (k : Nat) (p : List S41) (hp : p.length ≤ 65536) (hk : p.length + 1 ≤ k) : dragomanref06_SamePairs.f k p p = some true := by
  unfold dragomanref06_SamePairs.f
  rw [if_pos rfl]
  exact samePairs p.length k 0 p (by omega) (Nat.zero_add _) hk
theorem srt_dm {l : List S44} {last : Int} (hs : Srt last l) : ∀ x ∈ l, Dm x := fun x hx => by
  obtain ⟨_, _, _, _, ⟨b0, b1, _⟩, _⟩ := srt_lt l last hs x hx
  exact ⟨by omega, by omega⟩
theorem back_j0 (p : List S41) (hd : ∀ q ∈ p, Dom q) (k : Nat) (hk : 2 * p.length + 400000 ≤ k) : dragomanlaw06_RangesBack.j0 k p = some true := by
  obtain ⟨k, rfl⟩ : ∃ q, k = q + 2 := ⟨k - 2, by omega⟩
  rw [dragomanlaw06_RangesBack.j0, pack_f p hd (k + 1) (by omega), Option.bind_some]
  by_cases h0 : (p.length : Int) > 65536
  · rw [if_pos h0, if_neg (by decide)]
    rfl
  · rw [if_neg h0]
    by_cases ha : allok (-1) p
    · rw [if_pos ha, if_pos rfl]
      obtain ⟨h1, h2, h3, h4⟩ := packs_right p ha (by omega)
      have hxd := srt_dm h1
      show (ranges_Check.f (k + 1) (packs [] p)).bind _ = _
      rw [check_f _ hxd (k + 1) (by omega), Option.bind_some, h3, if_pos rfl]
      show (ranges_Pairs.f (k + 1) (packs [] p)).bind _ = _
      have hpo : prsOf (packs [] p) = p := by unfold prsOf; rw [if_pos h3, h2]
      rw [pairs_f _ hxd (k + 1) (by omega), hpo, Option.bind_some, sameP (k + 1) p (by omega) (by omega), Option.bind_some, if_pos rfl]
      show dragomanlaw06_RangesBack.j1 (k + 1) p (packs [] p) (decide (((packs [] p).length : Int) > (p.length : Int))) = _
      rw [decide_eq_false (by omega), dragomanlaw06_RangesBack.j1, if_neg (by decide)]
      exact back_l0 p (packs [] p) (by omega) ha h1 h2 (by omega) hd p.length k 0 (Nat.zero_add _) (by omega)
    · rw [if_neg ha, if_neg (by decide)]
      rfl
theorem back_true (p : List S41) (t : List S44) (hd : ∀ q ∈ p, Dom q) (ht : ∀ x ∈ t, Dm x) (k : Nat) (hk : 2 * p.length + 2 * t.length + 500000 ≤ k) : dragomanlaw06_RangesBack.f k p t = some true := by
  unfold dragomanlaw06_RangesBack.f
  obtain ⟨m, hm⟩ : ∃ m, k = 20 + m := ⟨k - 20, by omega⟩
  rw [hm, works_f, ← hm, Option.bind_some, if_pos rfl, check_f t ht k (by omega), Option.bind_some]
  by_cases h0 : chk t = 0
  · rw [if_pos h0, pairs_f t ht k (by omega), Option.bind_some]
    obtain ⟨hs, hc, hl⟩ := chk_srt h0
    have hpo : prsOf t = prs t := by unfold prsOf; rw [if_pos h0]
    have hlen := prs_len t (-1) hs
    have ha := allok_prs t (-1) hs
    have hpk : ranges_Pack.f k (prs t) = some (packs [] (prs t), 0) := by
      rw [pack_f (prs t) (prs_dom t (-1) hs) k (by omega), if_neg (by omega), if_pos ha]
    rw [hpo, hpk, Option.bind_some, if_pos rfl]
    have h5 := packs_prs t (-1) [] hs
    rw [List.length_nil, Nat.zero_add] at h5
    rw [if_neg (by show ¬ (((packs [] (prs t)).length : Int) > (t.length : Int)); omega)]
    obtain ⟨h1, h2, h3, h4⟩ := packs_right (prs t) ha (by omega)
    have hpo2 : prsOf (packs [] (prs t)) = prs t := by unfold prsOf; rw [if_pos h3, h2]
    show (ranges_Pairs.f k (packs [] (prs t))).bind _ = _
    rw [pairs_f _ (srt_dm h1) k (by omega), hpo2, Option.bind_some, sameP k (prs t) (by omega) (by omega), Option.bind_some, if_pos rfl]
    exact back_j0 p hd k (by omega)
  · rw [if_neg h0]
    exact back_j0 p hd k (by omega)
def mk44 (p : Int × Int × Int) : S44 := ⟨p.1, p.2.1, p.2.2⟩
def mk41 (p : Int × Int) : S41 := ⟨p.1, p.2⟩
theorem row44 {w : World} {a : Option Addr} {len cap : Nat} {l : List (Int × Int × Int)} (h : Rp.Row w 3 Rp.RangeK Rp.RangeD a len cap l) : Kd.C k44 w a (l.map mk44).length (l.map mk44) := by
  obtain ⟨h1, h2, h3, h4, _⟩ := h
  refine ⟨rfl, ?_, fun hp => ?_⟩
  · have : maxLen = 9223372036854775807 := rfl
    rw [List.length_map]
    omega
  · rw [List.length_map] at hp
    obtain ⟨x, rfl, hx⟩ := h4 (by omega)
    refine ⟨x, rfl, fun j p hj => ?_⟩
    rw [List.getElem?_map] at hj
    obtain ⟨q, hq, rfl⟩ := Option.map_eq_some_iff.1 hj
    exact ⟨_, rfl, k44_mk w (mk44 q), fun i u hu => hx j q hq i u hu⟩
theorem row41 {w : World} {a : Option Addr} {len cap : Nat} {l : List (Int × Int)} (h : Rp.Row w 2 Rp.PairK Rp.PairD a len cap l) : Kd.C k41 w a (l.map mk41).length (l.map mk41) := by
  obtain ⟨h1, h2, h3, h4, _⟩ := h
  refine ⟨rfl, ?_, fun hp => ?_⟩
  · have : maxLen = 9223372036854775807 := rfl
    rw [List.length_map]
    omega
  · rw [List.length_map] at hp
    obtain ⟨x, rfl, hx⟩ := h4 (by omega)
    refine ⟨x, rfl, fun j p hj => ?_⟩
    rw [List.getElem?_map] at hj
    obtain ⟨q, hq, rfl⟩ := Option.map_eq_some_iff.1 hj
    exact ⟨_, rfl, k41_mk w (mk41 q), fun i u hu => hx j q hq i u hu⟩
theorem back_walk (w : World) (a : Option Addr) (len cap : Nat) (l : List (Int × Int)) (h : Rp.Row w 2 Rp.PairK Rp.PairD a len cap l) (hl : len * 16 ≤ 140737488351232) (b : Option Addr) (len2 cap2 : Nat) (t : List (Int × Int × Int)) (h2 : Rp.Row w 3 Rp.RangeK Rp.RangeD b len2 cap2 t) (hl2 : len2 * 24 ≤ 140737488351232) :
    Calls Try.prog 5 #[.slice a len cap, .slice b len2 cap2] w fun e w' => e = .returned (.bool true) ∧ Below w.heap.size w w' := by
  have hC := row41 h
  have hC2 := row44 h2
  have e : (l.map mk41).length = len := by rw [List.length_map]; exact h.1
  have e2 : (t.map mk44).length = len2 := by rw [List.length_map]; exact h2.1
  have := dragomanlaw06_RangesBack.calls (2 * (l.map mk41).length + 2 * (t.map mk44).length + 500000) a cap (l.map mk41) b cap2 (t.map mk44) true w hC (by rw [e]; exact h.2.1) hC2 (by rw [e2]; exact h2.2.1) (back_true (l.map mk41) (t.map mk44) (fun p hp => by
    obtain ⟨q, hq, rfl⟩ := List.mem_map.1 hp
    exact ⟨bounds_i64 (h.2.2.2.2 q hq).1, bounds_i32 (h.2.2.2.2 q hq).2⟩) (fun p hp => by
    obtain ⟨q, hq, rfl⟩ := List.mem_map.1 hp
    exact bounds_i32 (h2.2.2.2.2 q hq).2.2) _ (Nat.le_refl _))
  rw [e, e2] at this
  exact this
end Go.Proofs.Ytnapldildjnchaa.PRangesBack
