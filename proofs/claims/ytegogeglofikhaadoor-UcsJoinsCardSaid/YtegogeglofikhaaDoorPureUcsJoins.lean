/- UcsJoins: the plain law, and the walk joined with it. -/
import Derived.Test.YtegogeglofikhaaDoorPUcsJoinsx3
import Derived.Test.YtegogeglofikhaaDoorUcQ
namespace Go.Proofs.YtegogeglofikhaaDoor.PUcsJoins
open Go.Proofs.YtegogeglofikhaaDoor
open Go.RowKit Go.Proofs.YtegogeglofikhaaDoorW.PrintWords Go.Proofs.YtegogeglofikhaaDoorW.PrintLast Go.Proofs.YtegogeglofikhaaDoorW.PrintMore
set_option linter.unusedVariables false
theorem scal_f (u : Int) : ucs_Scalar.f u = some (decide (Uc.Scal u)) := Uc.scalar_f u
theorem high_f (u : Int) : ucs_High.f u = some (decide (Uc.IsH u)) := by
  unfold ucs_High.f Uc.IsH
  by_cases h : u ≥ 55296 <;> by_cases h2 : u < 56320 <;> simp [*] <;> omega
theorem low_f (u : Int) : ucs_Low.f u = some (decide (Uc.IsL u)) := by
  unfold ucs_Low.f Uc.IsL
  by_cases h : u ≥ 56320 <;> by_cases h2 : u ≤ 57343 <;> simp [*] <;> omega
theorem join_f (h l : Int) : ucs_Join.f h l = some (Uc.joinF h l) := by
  unfold ucs_Join.f
  rw [high_f, low_f]
  simp only [Option.bind_some]
  by_cases a : Uc.IsH h
  · by_cases b : Uc.IsL l
    · rw [if_pos (decide_eq_true a), if_pos (decide_eq_true b), Uc.join_val a b, Uc.join_yes a b]
    · rw [if_pos (decide_eq_true a), if_neg (by simp [b]), Uc.join_not (fun x => b x.2)]
  · rw [if_neg (by simp [a]), Uc.join_not (fun x => a x.1)]
theorem and1023 (x : Int) (h0 : 0 ≤ x) (h1 : x < 2147483648) : Go.bits .and .i32 x 1023 = x % 1024 := bits_mask .i32 31 (by decide) Uc.wraps32 10 (by decide) x h0 (by omega)
theorem split_f (u : Int) (hu : -2147483648 ≤ u ∧ u ≤ 2147483647) : ucs_Split.f u = some (if 65536 ≤ u ∧ u ≤ 1114111 then (55296 + (u - 65536) / 1024, 56320 + (u - 65536) % 1024, true) else (0, 0, false)) := by
  unfold ucs_Split.f
  by_cases a : u < 65536
  · rw [if_pos a, if_neg (by omega)]
  rw [if_neg a]
  by_cases b : u > 1114111
  · rw [if_pos b, if_neg (by omega)]
  rw [if_neg b, if_pos (by omega), show wrap32 (u - 65536) = u - 65536 by unfold wrap32; omega, and1023 _ (by omega) (by omega), show wrap32 (55296 + (u - 65536) / 1024) = 55296 + (u - 65536) / 1024 by unfold wrap32; omega, show wrap32 (56320 + (u - 65536) % 1024) = 56320 + (u - 65536) % 1024 by unfold wrap32; omega]
theorem rscal_f (u : Int) : dragomanref01_Scalar.f u = some (decide (Uc.Scal u)) := by
  unfold dragomanref01_Scalar.f Uc.Scal
  by_cases h0 : u ≥ 0 <;> by_cases h1 : u ≤ 1114111 <;> by_cases h2 : u < 55296 <;> by_cases h3 : u > 57343 <;> simp [*] <;> omega
theorem step (k : Nat) (s : ByteArray) (u : Int) (h0 : 0 ≤ u) (h1 : u < 16777216) (hs : s.size ≤ 6) (hc : u > 0 ∨ s.size < 4) :
    dragomanref01_Hex.l0 (k + 1) s u = dragomanref01_Hex.l0 k ((⟨#[Uc.dgu (u % 16)]⟩ : ByteArray) ++ s) (u / 16) := by
  have e1 : Int.tmod u 16 = u % 16 := Int.tmod_eq_emod_of_nonneg h0
  have e2 : Int.tdiv u 16 = u / 16 := Int.tdiv_eq_ediv_of_nonneg h0
  have e3 : wrap64 (u % 16 + 1) = u % 16 + 1 := by unfold wrap64; omega
  have e4 : wrap64 (u / 16) = u / 16 := by unfold wrap64; omega
  have e5 := Uc.ext_dgu (u % 16) (by omega) (by omega)
  rw [dragomanref01_Hex.l0, e1, e2, e3, e4, e5]
  have hz : (⟨#[Uc.dgu (u % 16)]⟩ : ByteArray).size + s.size ≤ 9223372036854775807 := by
    rw [show (⟨#[Uc.dgu (u % 16)]⟩ : ByteArray).size = 1 from rfl]
    omega
  by_cases c : u > 0
  · rw [if_pos c, if_pos (by omega), if_pos (by omega), if_pos (by omega), if_pos hz]
  · rw [if_neg c, if_pos (by omega), if_pos (by omega), if_pos (by omega), if_pos (by omega), if_pos hz]
theorem fin (k : Nat) (s : ByteArray) (hs : s.size ≤ 6) (hc : 4 ≤ s.size) : dragomanref01_Hex.l0 (k + 1) s 0 = some ((⟨#[85, 43]⟩ : ByteArray) ++ s) := by
  rw [dragomanref01_Hex.l0, if_neg (by omega), if_neg (by omega), if_pos (by omega)]
theorem sz (x : UInt8) (s : ByteArray) : ((⟨#[x]⟩ : ByteArray) ++ s).size = s.size + 1 := by
  rw [ByteArray.size_append, show (⟨#[x]⟩ : ByteArray).size = 1 from rfl]
  omega
theorem sz0 : (⟨#[]⟩ : ByteArray).size = 0 := rfl
theorem loop (k : Nat) (u : Int) (h0 : 0 ≤ u) (h1 : u < 16777216) : ∃ s, dragomanref01_Hex.l0 (k + 7) ⟨#[]⟩ u = some s ∧ s.toList = 85 :: 43 :: Uc.wd u := by
  have hm : ∀ a b : Int, a / 16 = b → a / 16 = b := fun _ _ h => h
  rw [step (k + 6) _ u h0 h1 (by rw [sz0]; omega) (by rw [sz0]; omega)]
  rw [step (k + 5) _ (u / 16) (by omega) (by omega) (by simp only [sz, sz0]; omega) (by simp only [sz, sz0]; omega)]
  rw [step (k + 4) _ (u / 16 / 16) (by omega) (by omega) (by simp only [sz, sz0]; omega) (by simp only [sz, sz0]; omega)]
  rw [step (k + 3) _ (u / 16 / 16 / 16) (by omega) (by omega) (by simp only [sz, sz0]; omega) (by simp only [sz, sz0]; omega)]
  by_cases a : u < 65536
  · have e : u / 16 / 16 / 16 / 16 = 0 := by omega
    rw [e, fin (k + 2) _ (by simp only [sz, sz0]; omega) (by simp only [sz, sz0]; omega)]
    refine ⟨_, rfl, ?_⟩
    rw [Lib.toList_data, show u / 16 / 16 / 16 % 16 = u / 4096 by omega, show u / 16 / 16 % 16 = u / 256 % 16 by omega]
    unfold Uc.wd
    rw [if_pos a]
    simp
  rw [step (k + 2) _ (u / 16 / 16 / 16 / 16) (by omega) (by omega) (by simp only [sz, sz0]; omega) (by omega)]
  by_cases b : u < 1048576
  · have e : u / 16 / 16 / 16 / 16 / 16 = 0 := by omega
    rw [e, fin (k + 1) _ (by simp only [sz, sz0]; omega) (by simp only [sz, sz0]; omega)]
    refine ⟨_, rfl, ?_⟩
    rw [Lib.toList_data, show u / 16 / 16 / 16 / 16 % 16 = u / 65536 by omega, show u / 16 / 16 / 16 % 16 = u / 4096 % 16 by omega, show u / 16 / 16 % 16 = u / 256 % 16 by omega]
    unfold Uc.wd
    rw [if_neg a, if_pos b]
    simp
  rw [step (k + 1) _ (u / 16 / 16 / 16 / 16 / 16) (by omega) (by omega) (by simp only [sz, sz0]; omega) (by omega)]
  have e : u / 16 / 16 / 16 / 16 / 16 / 16 = 0 := by omega
  rw [e, fin (k + 0) _ (by simp only [sz, sz0]; omega) (by simp only [sz, sz0]; omega)]
  refine ⟨_, rfl, ?_⟩
  rw [Lib.toList_data, show u / 16 / 16 / 16 / 16 / 16 % 16 = u / 1048576 by omega, show u / 16 / 16 / 16 / 16 % 16 = u / 65536 % 16 by omega, show u / 16 / 16 / 16 % 16 = u / 4096 % 16 by omega, show u / 16 / 16 % 16 = u / 256 % 16 by omega]
  unfold Uc.wd
  rw [if_neg a, if_neg b]
  simp
theorem rhex (k : Nat) (u : Int) : ∃ s, dragomanref01_Hex.f (k + 7) u = some s ∧ (Uc.hexAll u).toList = s.toList := by
  unfold dragomanref01_Hex.f
  rw [rscal_f]
  simp only [Option.bind_some]
  by_cases a : Uc.Scal u
  · have a0 := a.1
    have a1 := a.2.1
    rw [if_pos (decide_eq_true a), show wrap64 u = u by unfold wrap64; omega]
    obtain ⟨s, h1, h2⟩ := loop k u a0 (by omega)
    exact ⟨s, h1, by rw [h2, Uc.hexAll_list u a]⟩
  · rw [if_neg (by simp [a])]
    refine ⟨_, rfl, ?_⟩
    unfold Uc.hexAll
    rw [if_neg a]
theorem rjoin_f (h l : Int) : dragomanref01_Join.f h l = some (Uc.joinF h l) := by
  have hh : dragomanref01_High.f h = some (decide (Uc.IsH h)) := by
    unfold dragomanref01_High.f Uc.IsH
    by_cases a : h ≥ 55296 <;> by_cases b : h ≤ 56319 <;> simp [*] <;> omega
  have hl : dragomanref01_Low.f l = some (decide (Uc.IsL l)) := low_f l
  unfold dragomanref01_Join.f
  rw [hh, hl]
  simp only [Option.bind_some]
  by_cases a : Uc.IsH h
  · by_cases b : Uc.IsL l
    · rw [if_pos (decide_eq_true a), if_pos (decide_eq_true b), Uc.join_yes a b]
      obtain ⟨a1, a2⟩ := a
      obtain ⟨b1, b2⟩ := b
      congr 2
      unfold wrap32
      omega
    · rw [if_pos (decide_eq_true a), if_neg (by simp [b]), Uc.join_not (fun x => b x.2)]
  · rw [if_neg (by simp [a]), Uc.join_not (fun x => a x.1)]
theorem rsplit_f (u : Int) (hu : -2147483648 ≤ u ∧ u ≤ 2147483647) : dragomanref01_Split.f u = some (if 65536 ≤ u ∧ u ≤ 1114111 then (55296 + (u - 65536) / 1024, 56320 + (u - 65536) % 1024, true) else (0, 0, false)) := by
  unfold dragomanref01_Split.f
  by_cases a : u < 65536
  · rw [if_pos a, if_neg (by omega)]
  rw [if_neg a]
  by_cases b : u > 1114111
  · rw [if_pos b, if_neg (by omega)]
  have e1 : wrap32 (u - 65536) = u - 65536 := by unfold wrap32; omega
  rw [if_neg b, if_pos (by omega), e1, Int.tdiv_eq_ediv_of_nonneg (by omega), Int.tmod_eq_emod_of_nonneg (by omega), show wrap32 ((u - 65536) / 1024) = (u - 65536) / 1024 by unfold wrap32; omega, show wrap32 (55296 + (u - 65536) / 1024) = 55296 + (u - 65536) / 1024 by unfold wrap32; omega, show wrap32 (56320 + (u - 65536) % 1024) = 56320 + (u - 65536) % 1024 by unfold wrap32; omega]
def dval (i : Nat) : Int := if i < 10 then 48 + i else 55 + i
theorem bt_dval : ∀ i : Fin 16, bt (⟨#[48, 49, 50, 51, 52, 53, 54, 55, 56, 57, 65, 66, 67, 68, 69, 70]⟩ : ByteArray) (i.1 : Int) = dval i.1 := by decide
theorem dig_l (c : Int) : ∀ (m i k : Nat), i + m = 16 → dragomanref01_digit.l0 (k + m + 1) c (i : Int) = some (if (i : Int) ≤ Uc.hv c then Uc.hv c else -1)
  | 0, i, k, h => by
    have hb := Uc.hv_bd c
    rw [dragomanref01_digit.l0, if_neg (by omega), if_neg (by omega)]
  | m + 1, i, k, h => by
    have hb := Uc.hv_bd c
    rw [show k + (m + 1) + 1 = (k + m + 1) + 1 by omega, dragomanref01_digit.l0, if_pos (by omega), if_pos (by omega), bt_dval ⟨i, by omega⟩]
    have hd : dval i = c ↔ Uc.hv c = i := by
      unfold dval Uc.hv
      split <;> split <;> (try split) <;> omega
    by_cases e : dval i = c
    · rw [if_pos e, hd.1 e, if_pos (by omega)]
    · have hne : Uc.hv c ≠ i := fun h => e (hd.2 h)
      rw [if_neg e, show wrap64 ((i : Int) + 1) = ((i + 1 : Nat) : Int) by unfold wrap64; omega, dig_l c m (i + 1) k (by omega)]
      congr 1
      by_cases q : (i : Int) ≤ Uc.hv c
      · rw [if_pos q, if_pos (by omega)]
      · rw [if_neg q, if_neg (by omega)]
theorem dig_f (c : Int) (k : Nat) : dragomanref01_digit.f (k + 17) c = some (Uc.hv c) := by
  have hb := Uc.hv_bd c
  unfold dragomanref01_digit.f
  have h := dig_l c 16 0 k (by omega)
  rw [show k + 17 = k + 16 + 1 by omega]
  refine h.trans ?_
  congr 1
  by_cases q : ((0 : Nat) : Int) ≤ Uc.hv c
  · rw [if_pos q]
  · rw [if_neg q]
    omega
theorem par_end (k : Nat) (s : ByteArray) (n : Int) (h0 : 0 ≤ n) (h1 : n < 268435456) : (if n > 1114111 then some ((0 : Int), false) else ((dragomanref01_Hex.f (k + 7) (wrap32 n)).bind fun t170 => (if t170.toList = s.toList then (if s.toList = ([] : List UInt8) then (some (0, false)) else (some (wrap32 n, true))) else (some (0, false))))) = some (Uc.finR n s) := by
  unfold Uc.finR
  by_cases a : n > 1114111
  · rw [if_pos a, if_pos a]
  rw [if_neg a, if_neg a, show wrap32 n = n by unfold wrap32; omega]
  obtain ⟨t, h1, h2⟩ := rhex k n
  rw [h1]
  simp only [Option.bind_some]
  rw [← h2, Lib.toList_data, Lib.toList_data]
  by_cases b : Uc.hexAll n = s
  · rw [if_pos b, if_pos (by rw [b])]
    by_cases c : s.data.toList = []
    · rw [if_pos c, if_pos c]
    · rw [if_neg c, if_neg c]
  · rw [if_neg b, if_neg (fun h => b (ByteArray.ext (Array.ext' h)))]
theorem dig_g (c : Int) (K : Nat) (h : 17 ≤ K) : dragomanref01_digit.f K c = some (Uc.hv c) := by
  obtain ⟨k, rfl⟩ : ∃ k, K = k + 17 := ⟨K - 17, by omega⟩
  exact dig_f c k
theorem p16 : ∀ m : Nat, (1 : Int) ≤ 16 ^ m
  | 0 => by decide
  | m + 1 => by
    rw [Int.pow_succ]
    have := p16 m
    omega
theorem par_l (s : ByteArray) (hs : s.size ≤ 140737488351232) : ∀ (m i k : Nat) (n p : Int), i + m = 9 → 2 ≤ i → 0 ≤ n → p = 16 ^ m → (n + 1) * p ≤ 268435456 →
    dragomanref01_Parse.l0 (k + m + 18) s n (i : Int) = some (Uc.finR (Uc.valR m (s.data.toList.drop i) n) s) := by
  intro m
  induction m with
  | zero =>
    intro i k n p h h2 h0 hp hn
    have hp1 : p = 1 := hp
    subst hp1
    rw [show k + 0 + 18 = (k + 10 + 7) + 1 by omega, dragomanref01_Parse.l0, Uc.valR]
    by_cases a : (i : Int) < (s.size : Int)
    · rw [if_pos a, if_neg (by omega)]
      exact par_end (k + 10) s n h0 (by omega)
    · rw [if_neg a]
      exact par_end (k + 10) s n h0 (by omega)
  | succ m ih =>
    intro i k n p h h2 h0 hp hn
    obtain ⟨q, hq⟩ : ∃ q : Int, q = 16 ^ m := ⟨_, rfl⟩
    have hq1 : 1 ≤ q := by
      rw [hq]
      exact p16 m
    have hpq : p = q * 16 := by rw [hp, hq, Int.pow_succ]
    have hn1 : (n + 1) * 1 ≤ (n + 1) * q := Int.mul_le_mul_of_nonneg_left hq1 (by omega)
    have hnq : ((n + 1) * 16) * q ≤ 268435456 := by
      rw [hpq] at hn
      have : (n + 1) * (q * 16) = ((n + 1) * 16) * q := by rw [Int.mul_comm q 16, Int.mul_assoc]
      omega
    have hn2 : (n + 1) * 16 * 1 ≤ ((n + 1) * 16) * q := Int.mul_le_mul_of_nonneg_left hq1 (by omega)
    rw [show k + (m + 1) + 18 = (k + m + 18) + 1 by omega, dragomanref01_Parse.l0]
    by_cases a : (i : Int) < (s.size : Int)
    · have hl : i < s.data.toList.length := by
        have : s.data.toList.length = s.size := Array.length_toList
        omega
      have hb : bt s (i : Int) = ((s.data.toList[i]'hl).toNat : Int) := by
        unfold bt
        rw [dif_pos (by rw [Int.toNat_natCast]; omega)]
        simp only [Int.toNat_natCast]
        rfl
      have hdg := dig_g (bt s (i : Int)) (k + m + 18) (by omega)
      rw [if_pos a, if_pos (by omega), if_pos (by omega), hdg, hb, Option.bind_some]
      have hvb := Uc.hv_bd ((s.data.toList[i]'hl).toNat : Int)
      rw [List.drop_eq_getElem_cons hl, Uc.valR]
      obtain ⟨d, hd⟩ : ∃ d, d = (if Uc.hv ((s.data.toList[i]'hl).toNat : Int) < 0 then 0 else Uc.hv ((s.data.toList[i]'hl).toNat : Int)) := ⟨_, rfl⟩
      have hmx : mx 0 (Uc.hv ((s.data.toList[i]'hl).toNat : Int)) = d := by
        rw [hd]
        unfold mx
        split <;> split <;> omega
      have hd0 : 0 ≤ d ∧ d < 16 := by
        rw [hd]
        split <;> omega
      rw [hmx, ← hd, show wrap64 (wrap64 (16 * n) + d) = n * 16 + d by unfold wrap64; omega, show wrap64 ((i : Int) + 1) = ((i + 1 : Nat) : Int) by unfold wrap64; omega]
      refine ih (i + 1) k (n * 16 + d) q (by omega) (by omega) (by omega) hq ?_
      have : (n * 16 + d + 1) * q ≤ ((n + 1) * 16) * q := Int.mul_le_mul_of_nonneg_right (by omega) (by omega)
      omega
    · rw [if_neg a, List.drop_eq_nil_of_le (by have h9 : s.data.toList.length = s.size := Array.length_toList; omega), Uc.valR_nil, show k + m + 18 = (k + m + 11) + 7 by omega]
      exact par_end (k + m + 11) s n h0 (by omega)
theorem pure : dragomanlaw01_UcsJoins.Pure := by
  intro a b s wa wb hs
  have ha : -2147483648 ≤ a ∧ a ≤ 2147483647 := by simpa [Lit.wf, IntKind.min, IntKind.max, IntKind.signed, IntKind.bits] using wa
  refine ⟨25, ?_⟩
  have hr : dragomanref01_Parse.f 25 s = some (Uc.parseF s) := by
    rw [Uc.parse_fin]
    exact par_l s hs 7 2 0 0 268435456 (by omega) (by omega) (by omega) (by decide) (by omega)
  unfold dragomanlaw01_UcsJoins.f
  rw [join_f, rjoin_f, split_f a (by omega), rsplit_f a (by omega), hr]
  simp [ucs_Parse.f]
theorem joins_walk (W : World) (hT : Uc.Tab W) (a : Int) (wa : (Lit.int .i32 a).wf = true) (b : Int) (wb : (Lit.int .i32 b).wf = true) (s : ByteArray) (ws : s.size ≤ maxLen) (ys : s.size ≤ 140737488351232) :
    Calls Tryd.prog 3 #[.int .i32 a, .int .i32 b, .string s] W fun e w' => e = .returned (.bool true) ∧ Below W.heap.size W w' :=
  dragomanlaw01_UcsJoins.walk pure a b s W wa wb ys hT
end Go.Proofs.YtegogeglofikhaaDoor.PUcsJoins
