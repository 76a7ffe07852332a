/- Plain facts about hexadecimal writing: the digits of a scalar, by size. -/
import Derived.Test.YtegogeglofikhaaDoorUcH
namespace Go.Proofs.YtegogeglofikhaaDoor.Uc
open Go.RowKit Go.Proofs.YtegogeglofikhaaDoorW.PrintWords Go.Proofs.YtegogeglofikhaaDoorW.PrintLast Go.Proofs.YtegogeglofikhaaDoorW.PrintMore
set_option linter.unusedVariables false
/-- A digit's byte, great letters. -/
def dgu (x : Int) : UInt8 := UInt8.ofNat (if x < 10 then 48 + x else 55 + x).toNat
theorem up_dgl (x : Int) (h0 : 0 ≤ x) (h1 : x < 16) : Lib.upperB (UInt8.ofNat (dgl x).toNat) = dgu x := by
  obtain ⟨n, rfl⟩ := Int.eq_ofNat_of_zero_le h0
  have hn : n < 16 := by omega
  match n, hn with
  | 0, _ | 1, _ | 2, _ | 3, _ | 4, _ | 5, _ | 6, _ | 7, _ | 8, _ | 9, _ | 10, _ | 11, _ | 12, _ | 13, _ | 14, _ | 15, _ => rfl
theorem dgu_inj (x y : Int) (h0 : 0 ≤ x) (h1 : x < 16) (h2 : 0 ≤ y) (h3 : y < 16) (h : dgu x = dgu y) : x = y := by
  have e := congrArg UInt8.toNat h
  unfold dgu at e
  simp at e
  split at e <;> split at e <;> omega
theorem hexd_one (k : Nat) (u : Int) (acc : List Int) (h : u < 16) : hexd (k + 1) u acc = dgl u :: acc := by rw [hexd, if_neg (by omega)]
theorem hexd_more (k : Nat) (u : Int) (acc : List Int) (h : 16 ≤ u) : hexd (k + 1) u acc = hexd k (u / 16) (dgl (u % 16) :: acc) := by rw [hexd, if_pos h]
/-- The digits in the least width that a writing has. -/
def wd (u : Int) : List UInt8 :=
  if u < 65536 then [dgu (u / 4096), dgu (u / 256 % 16), dgu (u / 16 % 16), dgu (u % 16)]
  else if u < 1048576 then [dgu (u / 65536), dgu (u / 4096 % 16), dgu (u / 256 % 16), dgu (u / 16 % 16), dgu (u % 16)]
  else [dgu (u / 1048576), dgu (u / 65536 % 16), dgu (u / 4096 % 16), dgu (u / 256 % 16), dgu (u / 16 % 16), dgu (u % 16)]
theorem hexB_data (u : Int) : (hexB u).data.toList = 85 :: 43 :: (Lib.repeatL [48] (4 - (hexd 6 u []).length) ++ ((hexd 6 u []).map fun n => Lib.upperB (UInt8.ofNat n.toNat))) := by
  unfold hexB
  rw [up_size]
  unfold upS strOfNums Lib.toUpperA
  simp [Function.comp_def]
theorem rep0 (n : Nat) : Lib.repeatL [48] (n + 1) = 48 :: Lib.repeatL [48] n := rfl
theorem dgu_zero : dgu 0 = 48 := rfl
theorem hexB_wd (u : Int) (h0 : 0 ≤ u) (h1 : u < 16777216) : (hexB u).data.toList = 85 :: 43 :: wd u := by
  rw [hexB_data]
  congr 2
  unfold wd
  by_cases a1 : u < 16
  · rw [hexd_one _ _ _ a1, if_pos (by omega)]
    have e3 : u / 4096 = 0 := by omega
    have e2 : u / 256 % 16 = 0 := by omega
    have e1 : u / 16 % 16 = 0 := by omega
    have e0 : u % 16 = u := by omega
    rw [e3, e2, e1, e0]
    simp [Lib.repeatL, up_dgl _ h0 a1, dgu_zero]
  rw [hexd_more _ _ _ (by omega)]
  by_cases a2 : u < 256
  · rw [hexd_one _ _ _ (by omega), if_pos (by omega)]
    have e3 : u / 4096 = 0 := by omega
    have e2 : u / 256 % 16 = 0 := by omega
    have e1 : u / 16 % 16 = u / 16 := by omega
    rw [e3, e2, e1]
    simp [Lib.repeatL, up_dgl (u / 16) (by omega) (by omega), up_dgl (u % 16) (by omega) (by omega), dgu_zero]
  rw [hexd_more _ _ _ (by omega)]
  by_cases a3 : u < 4096
  · rw [hexd_one _ _ _ (by omega), if_pos (by omega)]
    have e3 : u / 4096 = 0 := by omega
    have e2 : u / 256 % 16 = u / 16 / 16 := by omega
    rw [e3, e2]
    simp [Lib.repeatL, up_dgl (u / 16 / 16) (by omega) (by omega), up_dgl (u / 16 % 16) (by omega) (by omega), up_dgl (u % 16) (by omega) (by omega), dgu_zero]
  rw [hexd_more _ _ _ (by omega)]
  by_cases a4 : u < 65536
  · rw [hexd_one _ _ _ (by omega), if_pos (by omega)]
    have e3 : u / 4096 = u / 16 / 16 / 16 := by omega
    have e2 : u / 256 % 16 = u / 16 / 16 % 16 := by omega
    rw [e3, e2]
    simp [Lib.repeatL, up_dgl (u / 16 / 16 / 16) (by omega) (by omega), up_dgl (u / 16 / 16 % 16) (by omega) (by omega), up_dgl (u / 16 % 16) (by omega) (by omega), up_dgl (u % 16) (by omega) (by omega)]
  rw [hexd_more _ _ _ (by omega)]
  by_cases a5 : u < 1048576
  · rw [hexd_one _ _ _ (by omega), if_neg (by omega), if_pos (by omega)]
    have e4 : u / 65536 = u / 16 / 16 / 16 / 16 := by omega
    have e3 : u / 4096 % 16 = u / 16 / 16 / 16 % 16 := by omega
    have e2 : u / 256 % 16 = u / 16 / 16 % 16 := by omega
    rw [e4, e3, e2]
    simp [Lib.repeatL, up_dgl (u / 16 / 16 / 16 / 16) (by omega) (by omega), up_dgl (u / 16 / 16 / 16 % 16) (by omega) (by omega), up_dgl (u / 16 / 16 % 16) (by omega) (by omega), up_dgl (u / 16 % 16) (by omega) (by omega), up_dgl (u % 16) (by omega) (by omega)]
  rw [hexd_more _ _ _ (by omega), hexd_one _ _ _ (by omega), if_neg (by omega), if_neg (by omega)]
  have e5 : u / 1048576 = u / 16 / 16 / 16 / 16 / 16 := by omega
  have e4 : u / 65536 % 16 = u / 16 / 16 / 16 / 16 % 16 := by omega
  have e3 : u / 4096 % 16 = u / 16 / 16 / 16 % 16 := by omega
  have e2 : u / 256 % 16 = u / 16 / 16 % 16 := by omega
  rw [e5, e4, e3, e2]
  simp [Lib.repeatL, up_dgl (u / 16 / 16 / 16 / 16 / 16) (by omega) (by omega), up_dgl (u / 16 / 16 / 16 / 16 % 16) (by omega) (by omega), up_dgl (u / 16 / 16 / 16 % 16) (by omega) (by omega), up_dgl (u / 16 / 16 % 16) (by omega) (by omega), up_dgl (u / 16 % 16) (by omega) (by omega), up_dgl (u % 16) (by omega) (by omega)]
theorem wd_len (u : Int) : (wd u).length = if u < 65536 then 4 else if u < 1048576 then 5 else 6 := by
  unfold wd
  repeat' split
  all_goals rfl
theorem wd_inj (u v : Int) (h0 : 0 ≤ u) (h1 : u < 16777216) (h2 : 0 ≤ v) (h3 : v < 16777216) (h : wd u = wd v) : u = v := by
  have hl := congrArg List.length h
  rw [wd_len, wd_len] at hl
  unfold wd at h
  by_cases a : u < 65536
  · by_cases b : v < 65536
    · rw [if_pos a, if_pos b] at h
      simp only [List.cons.injEq, and_true] at h
      obtain ⟨x1, x2, x3, x4⟩ := h
      have y1 := dgu_inj _ _ (by omega) (by omega) (by omega) (by omega) x1
      have y2 := dgu_inj _ _ (by omega) (by omega) (by omega) (by omega) x2
      have y3 := dgu_inj _ _ (by omega) (by omega) (by omega) (by omega) x3
      have y4 := dgu_inj _ _ (by omega) (by omega) (by omega) (by omega) x4
      omega
    · exfalso
      rw [if_pos a, if_neg b] at hl
      split at hl <;> omega
  rw [if_neg a] at h hl
  by_cases b : v < 65536
  · exfalso
    rw [if_pos b] at hl
    split at hl <;> omega
  rw [if_neg b] at h hl
  by_cases c : u < 1048576
  · by_cases d : v < 1048576
    · rw [if_pos c, if_pos d] at h
      simp only [List.cons.injEq, and_true] at h
      obtain ⟨x1, x2, x3, x4, x5⟩ := h
      have y1 := dgu_inj _ _ (by omega) (by omega) (by omega) (by omega) x1
      have y2 := dgu_inj _ _ (by omega) (by omega) (by omega) (by omega) x2
      have y3 := dgu_inj _ _ (by omega) (by omega) (by omega) (by omega) x3
      have y4 := dgu_inj _ _ (by omega) (by omega) (by omega) (by omega) x4
      have y5 := dgu_inj _ _ (by omega) (by omega) (by omega) (by omega) x5
      omega
    · exfalso
      rw [if_pos c, if_neg d] at hl
      omega
  by_cases d : v < 1048576
  · exfalso
    rw [if_neg c, if_pos d] at hl
    omega
  rw [if_neg c, if_neg d] at h
  simp only [List.cons.injEq, and_true] at h
  obtain ⟨x1, x2, x3, x4, x5, x6⟩ := h
  have y1 := dgu_inj _ _ (by omega) (by omega) (by omega) (by omega) x1
  have y2 := dgu_inj _ _ (by omega) (by omega) (by omega) (by omega) x2
  have y3 := dgu_inj _ _ (by omega) (by omega) (by omega) (by omega) x3
  have y4 := dgu_inj _ _ (by omega) (by omega) (by omega) (by omega) x4
  have y5 := dgu_inj _ _ (by omega) (by omega) (by omega) (by omega) x5
  have y6 := dgu_inj _ _ (by omega) (by omega) (by omega) (by omega) x6
  omega
theorem hexAll_list (u : Int) (h : Scal u) : (hexAll u).toList = 85 :: 43 :: wd u := by
  unfold hexAll
  rw [if_pos h, Lib.toList_data, hexB_wd u h.1 (by have := h.2.1; omega)]
theorem hexAll_size (u : Int) (h : Scal u) : (hexAll u).size = 2 + (wd u).length := by
  have e := congrArg List.length (hexAll_list u h)
  rw [Lib.toList_data, Array.length_toList] at e
  exact e.trans (by simp only [List.length_cons]; omega)
theorem wd_mono (u v : Int) (h : u ≤ v) : (wd u).length ≤ (wd v).length := by
  rw [wd_len, wd_len]
  repeat' split
  all_goals omega
/-- A high and a low half. -/
def IsH (u : Int) : Prop := 55296 ≤ u ∧ u < 56320
def IsL (u : Int) : Prop := 56320 ≤ u ∧ u ≤ 57343
instance (u : Int) : Decidable (IsH u) := by unfold IsH; infer_instance
instance (u : Int) : Decidable (IsL u) := by unfold IsL; infer_instance
def joinF (h l : Int) : Int × Bool := if IsH h ∧ IsL l then ((h - 55296) * 1024 + (l - 56320) + 65536, true) else (0, false)
theorem join_yes {h l : Int} (a : IsH h) (b : IsL l) : joinF h l = ((h - 55296) * 1024 + (l - 56320) + 65536, true) := if_pos ⟨a, b⟩
theorem join_not {h l : Int} (a : ¬ (IsH h ∧ IsL l)) : joinF h l = (0, false) := if_neg a
theorem wraps32 (n : Int) (h0 : 0 ≤ n) (h1 : n < 2 ^ 31) : IntKind.i32.wrap n = n := by rw [IntKind.wrap_i32]; omega
theorem or_join (x y : Int) (h0 : 0 ≤ x) (h1 : x < 1024) (h2 : 0 ≤ y) (h3 : y < 1024) : bits .or .i32 (x * 1024) y = x * 1024 + y :=
  bits_join .i32 31 (by decide) wraps32 10 (x * 1024) y (by omega) (by omega) (by omega) h2 (by omega) (by omega)
theorem join_val {h l : Int} (a : IsH h) (b : IsL l) : wrap32 ((bits .or .i32 (wrap32 ((wrap32 (h - 55296)) * 1024)) (wrap32 (l - 56320))) + 65536) = (h - 55296) * 1024 + (l - 56320) + 65536 := by
  obtain ⟨a1, a2⟩ := a
  obtain ⟨b1, b2⟩ := b
  rw [show wrap32 (h - 55296) = h - 55296 by unfold wrap32; omega, show wrap32 ((h - 55296) * 1024) = (h - 55296) * 1024 by unfold wrap32; omega, show wrap32 (l - 56320) = l - 56320 by unfold wrap32; omega,
    or_join (h - 55296) (l - 56320) (by omega) (by omega) (by omega) (by omega)]
  unfold wrap32
  omega
/-- The plane of a number. -/
def plane (u : Int) : Int := if Scal u then u / 65536 else -1
theorem plane_eq (u : Int) (h : Scal u) : plane u = u / 65536 := if_pos h
theorem scal_big (u : Int) (h0 : 65536 ≤ u) (h1 : u ≤ 1114111) : Scal u := ⟨by omega, h1, by omega⟩
theorem ext_dgu (x : Int) (h0 : 0 ≤ x) (h1 : x < 16) : (⟨#[48, 49, 50, 51, 52, 53, 54, 55, 56, 57, 65, 66, 67, 68, 69, 70]⟩ : ByteArray).extract (x : Int).toNat (x + 1 : Int).toNat = (⟨#[dgu x]⟩ : ByteArray) := by
  obtain ⟨n, rfl⟩ := Int.eq_ofNat_of_zero_le h0
  have hn : n < 16 := by omega
  match n, hn with
  | 0, _ | 1, _ | 2, _ | 3, _ | 4, _ | 5, _ | 6, _ | 7, _ | 8, _ | 9, _ | 10, _ | 11, _ | 12, _ | 13, _ | 14, _ | 15, _ => decide
end Go.Proofs.YtegogeglofikhaaDoor.Uc
