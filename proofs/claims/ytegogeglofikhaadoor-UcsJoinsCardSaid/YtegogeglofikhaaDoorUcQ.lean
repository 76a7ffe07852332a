/- Plain facts about reading a writing. -/
import Derived.Test.YtegogeglofikhaaDoorUcJ
namespace Go.Proofs.YtegogeglofikhaaDoor.Uc
open Go.RowKit Go.Proofs.YtegogeglofikhaaDoorW.PrintWords Go.Proofs.YtegogeglofikhaaDoorW.PrintLast Go.Proofs.YtegogeglofikhaaDoorW.PrintMore
set_option linter.unusedVariables false
theorem dgu_hv (x : Int) (h0 : 0 ≤ x) (h1 : x < 16) : hv ((dgu x).toNat : Int) = x := by
  obtain ⟨n, rfl⟩ := Int.eq_ofNat_of_zero_le h0
  have hn : n < 16 := by omega
  match n, hn with
  | 0, _ | 1, _ | 2, _ | 3, _ | 4, _ | 5, _ | 6, _ | 7, _ | 8, _ | 9, _ | 10, _ | 11, _ | 12, _ | 13, _ | 14, _ | 15, _ => decide
theorem digs_dgu (x : Int) (h0 : 0 ≤ x) (h1 : x < 16) (t : List UInt8) (i : Nat) (hi : i ≤ 5) (n : Int) : digs (dgu x :: t) i n = digs t (i + 1) (n * 16 + x) := by
  rw [digs, dgu_hv x h0 h1, if_neg (by omega)]
theorem digs_wd (u : Int) (h0 : 0 ≤ u) (h1 : u < 16777216) : digs (wd u) 0 0 = some u := by
  unfold wd
  by_cases a : u < 65536
  · rw [if_pos a, digs_dgu _ (by omega) (by omega) _ _ (by omega), digs_dgu _ (by omega) (by omega) _ _ (by omega), digs_dgu _ (by omega) (by omega) _ _ (by omega), digs_dgu _ (by omega) (by omega) _ _ (by omega), digs]
    congr 1
    omega
  by_cases b : u < 1048576
  · rw [if_neg a, if_pos b, digs_dgu _ (by omega) (by omega) _ _ (by omega), digs_dgu _ (by omega) (by omega) _ _ (by omega), digs_dgu _ (by omega) (by omega) _ _ (by omega), digs_dgu _ (by omega) (by omega) _ _ (by omega), digs_dgu _ (by omega) (by omega) _ _ (by omega), digs]
    congr 1
    omega
  rw [if_neg a, if_neg b, digs_dgu _ (by omega) (by omega) _ _ (by omega), digs_dgu _ (by omega) (by omega) _ _ (by omega), digs_dgu _ (by omega) (by omega) _ _ (by omega), digs_dgu _ (by omega) (by omega) _ _ (by omega), digs_dgu _ (by omega) (by omega) _ _ (by omega), digs_dgu _ (by omega) (by omega) _ _ (by omega), digs]
  congr 1
  omega
theorem hexAll_data (u : Int) (h : Scal u) : (hexAll u).data.toList = 85 :: 43 :: wd u := by rw [← Lib.toList_data, hexAll_list u h]
theorem hexAll_no (u : Int) (h : ¬ Scal u) : hexAll u = ⟨#[]⟩ := if_neg h
theorem parse_yes (u : Int) (h : Scal u) : parseF (hexAll u) = (u, true) := by
  have hd := hexAll_data u h
  have hp : Lib.hasPrefix (hexAll u).data.toList [85, 43] = true := by rw [hd]; rfl
  have ht : Lib.trimPrefix (hexAll u).data.toList [85, 43] = wd u := by
    unfold Lib.trimPrefix
    rw [if_pos hp, hd]
    rfl
  unfold parseF
  rw [if_pos hp, ht, parseD, show (⟨(wd u).toArray⟩ : ByteArray).data.toList = wd u from by simp, digs_wd u h.1 (by have := h.2.1; omega)]
  exact if_pos rfl
/-- Whatever is read was written so. -/
theorem parse_or (s : ByteArray) : parseF s = (0, false) ∨ ∃ n, Scal n ∧ hexAll n = s ∧ parseF s = (n, true) := by
  unfold parseF
  by_cases hp : Lib.hasPrefix s.data.toList [85, 43] = true
  · rw [if_pos hp]
    unfold parseD
    cases digs _ 0 0 with
    | none => exact Or.inl rfl
    | some n =>
      by_cases he : hexAll n = s
      · right
        refine ⟨n, ?_, he, if_pos he⟩
        by_cases hs : Scal n
        · exact hs
        · exfalso
          rw [hexAll_no n hs] at he
          rw [← he] at hp
          exact absurd hp (by decide)
      · exact Or.inl (if_neg he)
  · exact Or.inl (if_neg hp)
theorem hexAll_inj (u v : Int) (hu : Scal u) (hv : Scal v) (h : hexAll u = hexAll v) : u = v := by
  have e := congrArg (fun s : ByteArray => s.data.toList) h
  simp only [hexAll_data u hu, hexAll_data v hv] at e
  exact wd_inj u v hu.1 (by have := hu.2.1; omega) hv.1 (by have := hv.2.1; omega) (List.cons.inj (List.cons.inj e).2).2
/-- The reference's number: of the bytes, as far as the count goes. -/
def valR : Nat → List UInt8 → Int → Int
  | 0, _, n => n
  | _ + 1, [], n => n
  | m + 1, b :: t, n => valR m t (n * 16 + (if hv (b.toNat : Int) < 0 then 0 else hv (b.toNat : Int)))
theorem valR_dgu (x : Int) (h0 : 0 ≤ x) (h1 : x < 16) (t : List UInt8) (m : Nat) (n : Int) : valR (m + 1) (dgu x :: t) n = valR m t (n * 16 + x) := by
  rw [valR, dgu_hv x h0 h1, if_neg (by omega)]
theorem valR_nil (m : Nat) (n : Int) : valR m [] n = n := by cases m <;> rfl
theorem valR_wd (u : Int) (h0 : 0 ≤ u) (h1 : u < 16777216) : valR 7 (wd u) 0 = u := by
  unfold wd
  by_cases a : u < 65536
  · rw [if_pos a, valR_dgu _ (by omega) (by omega), valR_dgu _ (by omega) (by omega), valR_dgu _ (by omega) (by omega), valR_dgu _ (by omega) (by omega), valR_nil]
    omega
  by_cases b : u < 1048576
  · rw [if_neg a, if_pos b, valR_dgu _ (by omega) (by omega), valR_dgu _ (by omega) (by omega), valR_dgu _ (by omega) (by omega), valR_dgu _ (by omega) (by omega), valR_dgu _ (by omega) (by omega), valR_nil]
    omega
  rw [if_neg a, if_neg b, valR_dgu _ (by omega) (by omega), valR_dgu _ (by omega) (by omega), valR_dgu _ (by omega) (by omega), valR_dgu _ (by omega) (by omega), valR_dgu _ (by omega) (by omega), valR_dgu _ (by omega) (by omega), valR_nil]
  omega
/-- What the reference makes of its number. -/
def finR (n : Int) (s : ByteArray) : Int × Bool := if n > 1114111 then (0, false) else if hexAll n = s then (if s.data.toList = [] then (0, false) else (n, true)) else (0, false)
theorem finR_or (n : Int) (s : ByteArray) : finR n s = (0, false) ∨ (Scal n ∧ hexAll n = s ∧ finR n s = (n, true)) := by
  unfold finR
  by_cases a : n > 1114111
  · exact Or.inl (if_pos a)
  rw [if_neg a]
  by_cases b : hexAll n = s
  · rw [if_pos b]
    by_cases c : s.data.toList = []
    · exact Or.inl (if_pos c)
    · right
      refine ⟨?_, b, if_neg c⟩
      by_cases hs : Scal n
      · exact hs
      · exfalso
        rw [hexAll_no n hs] at b
        exact c (by rw [← b])
  · exact Or.inl (if_neg b)
theorem finR_yes (u : Int) (h : Scal u) : finR u (hexAll u) = (u, true) := by
  unfold finR
  rw [if_neg (by have := h.2.1; omega), if_pos rfl, if_neg (by rw [hexAll_data u h]; exact List.cons_ne_nil _ _)]
/-- Both read the same. -/
theorem parse_fin (s : ByteArray) : parseF s = finR (valR 7 (s.data.toList.drop 2) 0) s := by
  have key : ∀ u, Scal u → hexAll u = s → valR 7 (s.data.toList.drop 2) 0 = u := by
    intro u hu he
    rw [← he, hexAll_data u hu]
    exact valR_wd u hu.1 (by have := hu.2.1; omega)
  rcases parse_or s with h | ⟨n, hn, he, h⟩
  · rcases finR_or (valR 7 (s.data.toList.drop 2) 0) s with k | ⟨k1, k2, k3⟩
    · rw [h, k]
    · exfalso
      rw [← k2, parse_yes _ k1] at h
      injection h with _ h
      cases h
  · rw [h, key n hn he]
    conv => rhs; rw [← he]
    rw [finR_yes n hn]
end Go.Proofs.YtegogeglofikhaaDoor.Uc
