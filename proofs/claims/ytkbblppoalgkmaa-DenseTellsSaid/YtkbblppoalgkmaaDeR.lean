/- The reference's Scalars, for layer 7. -/
import Derived.Test.YtkbblppoalgkmaaPDenseTellsx3
import Derived.Test.YtkbblppoalgkmaaDeD
import Derived.Deep.QuietTactic
import Derived.BigQuiet
namespace Go.Proofs.Ytkbblppoalgkmaa.U8
open Go.RowKit Go.Proofs.Ytkbblppoalgkmaa.PDenseTells Go.Proofs.YtkbblppoalgkmaaW.PrintWords Go.Proofs.YtkbblppoalgkmaaW.PrintLast Go.Proofs.YtkbblppoalgkmaaW.PrintMore
open Go.Proofs.Ytkbblppoalgkmaa.De (on)
set_option linter.unusedVariables false
set_option linter.unusedSimpArgs false
/-! ### The reference -/
theorem bounds0 (k : Nat) : dragomanref03_bounds.f k [] = some (0, 244) := by
  unfold dragomanref03_bounds.f
  rfl
theorem bounds1 (k : Nat) (a : Int) : dragomanref03_bounds.f (k + 1) [a] = some (if a < 194 then (0, 0) else if a = 224 then (160, 191) else if a = 237 then (128, 159) else if a = 240 then (144, 191) else if a = 244 then (128, 143) else (128, 191)) := by
  unfold dragomanref03_bounds.f
  simp only [dragomanref03_bounds.j0, rd0, List.length_cons, List.length_nil]
  by_cases c1 : a < 194
  · rw [if_pos c1]
    simp [show ¬ a ≥ 240 by omega, show ¬ a ≥ 224 by omega, show ¬ a ≥ 194 by omega]
  · rw [if_neg c1]
    by_cases c2 : a ≥ 240
    · by_cases c3 : a = 240
      · simp [c3]
      · by_cases c4 : a = 244
        · simp [c4]
        · simp [c2, c3, c4, show ¬ a = 224 by omega, show ¬ a = 237 by omega]
    · by_cases c3 : a ≥ 224
      · by_cases c4 : a = 224
        · simp [c4]
        · by_cases c5 : a = 237
          · simp [c5]
          · simp [c2, c3, c4, c5, show ¬ a = 240 by omega, show ¬ a = 244 by omega]
      · simp [c2, c3, show a ≥ 194 by omega, show ¬ a = 240 by omega, show ¬ a = 244 by omega, show ¬ a = 224 by omega, show ¬ a = 237 by omega]
theorem bounds2 (k : Nat) (a b : Int) : dragomanref03_bounds.f (k + 1) [a, b] = some (if a < 224 then (0, 0) else (128, 191)) := by
  unfold dragomanref03_bounds.f
  simp only [dragomanref03_bounds.j0, rd0, List.length_cons, List.length_nil]
  by_cases c2 : a ≥ 240
  · simp [c2, show ¬ a < 224 by omega]
  · by_cases c3 : a ≥ 224
    · simp [c2, c3, show ¬ a < 224 by omega]
    · by_cases c4 : a ≥ 194
      · simp [c2, c3, c4, show a < 224 by omega]
      · simp [c2, c3, c4, show a < 224 by omega]
theorem bounds3 (k : Nat) (a b c : Int) : dragomanref03_bounds.f (k + 1) [a, b, c] = some (if a < 240 then (0, 0) else (128, 191)) := by
  unfold dragomanref03_bounds.f
  simp only [dragomanref03_bounds.j0, rd0, List.length_cons, List.length_nil]
  by_cases c2 : a ≥ 240
  · simp [c2, show ¬ a < 240 by omega]
  · by_cases c3 : a ≥ 224
    · simp [c2, c3, show a < 240 by omega]
    · by_cases c4 : a ≥ 194
      · simp [c2, c3, c4, show a < 240 by omega]
      · simp [c2, c3, c4, show a < 240 by omega]
theorem bounds4 (k : Nat) (a b c d : Int) : dragomanref03_bounds.f (k + 1) [a, b, c, d] = some (0, 0) := by
  unfold dragomanref03_bounds.f
  simp only [dragomanref03_bounds.j0, rd0, List.length_cons, List.length_nil]
  repeat' split
  all_goals first | rfl | (exfalso; omega)

theorem num_end (k : Nat) (l : List Int) (n u : Int) : dragomanref03_Get.l1 (k + 1) l n u n = some (good n u) := by
  simp only [dragomanref03_Get.l1]
  rw [if_neg (by omega)]
  rfl
theorem num_next (k : Nat) (l : List Int) (n u i b : Int) (h : i < n) (hi : 0 ≤ i) (hi2 : i < 10) (hl : i < l.length) (hr : rd l i = b) (hb : Byte b) (hu : 0 ≤ u) (hu2 : u < 1000000) : dragomanref03_Get.l1 (k + 1) l n u i = dragomanref03_Get.l1 k l n (u * 64 + b % 64) (i + 1) := by
  unfold Byte at hb
  simp only [dragomanref03_Get.l1]
  have e1 : wrap32 b = b := by unfold wrap32; omega
  have e2 : Int.tmod b 64 = b % 64 := Int.tmod_eq_emod_of_nonneg (by omega)
  have e3 : wrap32 (64 * u) = u * 64 := by unfold wrap32; omega
  have e4 : wrap32 (u * 64 + b % 64) = u * 64 + b % 64 := by unfold wrap32; omega
  have e5 : wrap64 (i + 1) = i + 1 := by unfold wrap64; omega
  rw [if_pos h, if_pos hi, if_pos hl, hr, e1, e2, e3, e4, e5]
theorem end_none (k : Nat) (l : List Int) (n : Int) : dragomanref03_Get.j3 (k + 1) l n true = some more := by
  simp only [dragomanref03_Get.j3]
  rfl
/-- Behind the loop, where what was taken wants more. -/
theorem out_more (k : Nat) (l : List Int) (n lo hi : Int) (hn : 0 < n) (hl : n ≤ l.length) (hb : dragomanref03_bounds.f (k + 1) (l.take n.toNat) = some (lo, hi)) (hh : hi ≠ 0) : dragomanref03_Get.j2 (k + 2) l n = some more := by
  simp only [dragomanref03_Get.j2]
  rw [if_pos (by omega), if_pos hl, hb]
  simp only [Option.bind_some]
  rw [if_neg (by omega), show (hi != 0) = true by simp [hh]]
  exact end_none k l n
theorem out_good (k : Nat) (l : List Int) (n lo : Int) (hn : 0 < n) (hl : n ≤ l.length) (hb : dragomanref03_bounds.f (k + 1) (l.take n.toNat) = some (lo, 0)) : dragomanref03_Get.j2 (k + 2) l n = dragomanref03_Get.j3 (k + 1) l n false := by
  simp only [dragomanref03_Get.j2]
  rw [if_pos (by omega), if_pos hl, hb]
  simp only [Option.bind_some]
  rw [if_neg (by omega)]
  rfl
theorem num1 (k : Nat) (a : Int) (t : List Int) (ha : Byte a) : dragomanref03_Get.j3 (k + 4) (a :: t) 1 false = some (good 1 a) := by
  simp only [dragomanref03_Get.j3, dragomanref03_Get.j4]
  rw [if_neg (by simp), if_pos (by simp only [List.length_cons]; omega), if_neg (by omega), num_end, rd0, show wrap32 a = a by unfold Byte at ha; unfold wrap32; omega]
theorem num2 (k : Nat) (a b : Int) (t : List Int) (ha : Byte a) (hb : Byte b) : dragomanref03_Get.j3 (k + 5) (a :: b :: t) 2 false = some (good 2 (a % 32 * 64 + b % 64)) := by
  simp only [dragomanref03_Get.j3, dragomanref03_Get.j4]
  rw [if_neg (by simp), if_pos (by simp only [List.length_cons]; omega), if_pos (by omega), if_pos (by decide +kernel), if_neg (by decide +kernel), rd0, show wrap32 a = a by unfold Byte at ha; unfold wrap32; omega, show shl .i32 1 (wrap64 (7 - 2)) = 32 by decide +kernel, Int.tmod_eq_emod_of_nonneg ha.1,
    num_next _ _ 2 _ 1 b (by omega) (by omega) (by omega) (by simp only [List.length_cons]; omega) rfl hb (by omega) (by omega), show (1 : Int) + 1 = 2 by rfl, num_end]
theorem num3 (k : Nat) (a b c : Int) (t : List Int) (ha : Byte a) (hb : Byte b) (hc : Byte c) : dragomanref03_Get.j3 (k + 6) (a :: b :: c :: t) 3 false = some (good 3 ((a % 16 * 64 + b % 64) * 64 + c % 64)) := by
  simp only [dragomanref03_Get.j3, dragomanref03_Get.j4]
  rw [if_neg (by simp), if_pos (by simp only [List.length_cons]; omega), if_pos (by omega), if_pos (by decide +kernel), if_neg (by decide +kernel), rd0, show wrap32 a = a by unfold Byte at ha; unfold wrap32; omega, show shl .i32 1 (wrap64 (7 - 3)) = 16 by decide +kernel, Int.tmod_eq_emod_of_nonneg ha.1,
    num_next _ _ 3 _ 1 b (by omega) (by omega) (by omega) (by simp only [List.length_cons]; omega) rfl hb (by omega) (by omega), show (1 : Int) + 1 = 2 by rfl,
    num_next _ _ 3 _ 2 c (by omega) (by omega) (by omega) (by simp only [List.length_cons]; omega) rfl hc (by omega) (by omega), show (2 : Int) + 1 = 3 by rfl, num_end]
theorem num4 (k : Nat) (a b c d : Int) (t : List Int) (ha : Byte a) (hb : Byte b) (hc : Byte c) (hd : Byte d) : dragomanref03_Get.j3 (k + 7) (a :: b :: c :: d :: t) 4 false = some (good 4 (((a % 8 * 64 + b % 64) * 64 + c % 64) * 64 + d % 64)) := by
  simp only [dragomanref03_Get.j3, dragomanref03_Get.j4]
  rw [if_neg (by simp), if_pos (by simp only [List.length_cons]; omega), if_pos (by omega), if_pos (by decide +kernel), if_neg (by decide +kernel), rd0, show wrap32 a = a by unfold Byte at ha; unfold wrap32; omega, show shl .i32 1 (wrap64 (7 - 4)) = 8 by decide +kernel, Int.tmod_eq_emod_of_nonneg ha.1,
    num_next _ _ 4 _ 1 b (by omega) (by omega) (by omega) (by simp only [List.length_cons]; omega) rfl hb (by omega) (by omega), show (1 : Int) + 1 = 2 by rfl,
    num_next _ _ 4 _ 2 c (by omega) (by omega) (by omega) (by simp only [List.length_cons]; omega) rfl hc (by omega) (by omega), show (2 : Int) + 1 = 3 by rfl,
    num_next _ _ 4 _ 3 d (by omega) (by omega) (by omega) (by simp only [List.length_cons]; omega) rfl hd (by omega) (by omega), show (3 : Int) + 1 = 4 by rfl, num_end]

/-- Within the loop: the unit ahead is whole. -/
theorem in_whole (k : Nat) (l : List Int) (n lo : Int) (hn : 0 < n) (hl : n < l.length) (hb : dragomanref03_bounds.f (k + 1) (l.take n.toNat) = some (lo, 0)) : dragomanref03_Get.l0 (k + 2) l n = dragomanref03_Get.j2 k l n := by
  rw [dragomanref03_Get.l0, if_pos hl, if_pos (by omega), if_pos (by omega), hb]
  simp only [Option.bind_some]
  rw [if_pos hn]
  simp [dragomanref03_Get.j1]
theorem in_next (k : Nat) (l : List Int) (n lo hi b : Int) (hn : 0 < n) (hn2 : n < 10) (hl : n < l.length) (hb : dragomanref03_bounds.f (k + 1) (l.take n.toNat) = some (lo, hi)) (hh : hi ≠ 0) (hr : rd l n = b) :
    dragomanref03_Get.l0 (k + 2) l n = if lo ≤ b ∧ b ≤ hi then dragomanref03_Get.l0 k l (n + 1) else some (bad n) := by
  have e5 : wrap64 (n + 1) = n + 1 := by unfold wrap64; omega
  rw [dragomanref03_Get.l0, if_pos hl, if_pos (by omega), if_pos (by omega), hb]
  simp only [Option.bind_some]
  rw [if_pos hn, show (hi == 0) = false by simp [hh]]
  simp only [dragomanref03_Get.j1]
  rw [if_neg (by simp), if_pos (by omega), if_pos hl, hr, e5]
  have e6 : mx 1 n = n := by unfold mx; split <;> omega
  rw [e6]
  by_cases c1 : b < lo
  · rw [if_pos c1, if_neg (by omega)]
    rfl
  · rw [if_neg c1]
    by_cases c2 : b > hi
    · rw [if_pos c2, if_neg (by omega)]
      rfl
    · rw [if_neg c2, if_neg (by omega), if_pos (by omega)]
theorem in_end (k : Nat) (l : List Int) (n : Int) (hl : n = l.length) : dragomanref03_Get.l0 (k + 1) l n = dragomanref03_Get.j2 k l n := by
  rw [dragomanref03_Get.l0, if_neg (by omega)]
theorem in_first (k : Nat) (a : Int) (t : List Int) : dragomanref03_Get.l0 (k + 2) (a :: t) 0 = if a < 0 then some (bad 1) else if 244 < a then some (bad 1) else if 128 ≤ a ∧ a < 194 then some (bad 1) else dragomanref03_Get.l0 k (a :: t) 1 := by
  rw [dragomanref03_Get.l0, if_pos (by simp only [List.length_cons]; omega), if_pos (by omega), if_pos (by omega), show (a :: t).take (0 : Int).toNat = [] from rfl, bounds0]
  simp only [Option.bind_some]
  rw [if_neg (by omega)]
  simp only [dragomanref03_Get.j1]
  rw [if_neg (by simp), if_pos (by omega), if_pos (by simp only [List.length_cons]; omega), rd0, show wrap64 (0 + 1) = 1 by decide +kernel, show mx 1 0 = 1 by decide +kernel]
  by_cases c1 : a < 0
  · rw [if_pos c1, if_pos c1]; rfl
  · rw [if_neg c1, if_neg c1]
    by_cases c2 : a > 244
    · rw [if_pos c2, if_pos c2]; rfl
    · rw [if_neg c2, if_neg c2]
      by_cases c3 : a ≥ 128
      · by_cases c4 : a < 194
        · simp [c3, c4]; rfl
        · simp [c3, c4]
      · simp [c3]

theorem sec_iff {a b : Int} (h : ¬ a < 194) (h2 : ¬ 244 < a) : ∃ lo hi, (∀ k, dragomanref03_bounds.f (k + 1) [a] = some (lo, hi)) ∧ hi ≠ 0 ∧ (lo ≤ b ∧ b ≤ hi ↔ Sec a b) := by
  unfold Sec
  by_cases c1 : a = 224
  · exact ⟨160, 191, fun k => by rw [bounds1, if_neg h, if_pos c1], by omega, by omega⟩
  · by_cases c2 : a = 237
    · exact ⟨128, 159, fun k => by rw [bounds1, if_neg h, if_neg c1, if_pos c2], by omega, by omega⟩
    · by_cases c3 : a = 240
      · exact ⟨144, 191, fun k => by rw [bounds1, if_neg h, if_neg c1, if_neg c2, if_pos c3], by omega, by omega⟩
      · by_cases c4 : a = 244
        · exact ⟨128, 143, fun k => by rw [bounds1, if_neg h, if_neg c1, if_neg c2, if_neg c3, if_pos c4], by omega, by omega⟩
        · exact ⟨128, 191, fun k => by rw [bounds1, if_neg h, if_neg c1, if_neg c2, if_neg c3, if_neg c4], by omega, by omega⟩

/-- The unit at the front is whole: the loop ends there. -/
theorem whole (k : Nat) (l : List Int) (n lo : Int) (hn : 0 < n) (hl : n ≤ l.length) (hb : ∀ k, dragomanref03_bounds.f (k + 1) (l.take n.toNat) = some (lo, 0)) : dragomanref03_Get.l0 (k + 4) l n = dragomanref03_Get.j3 (k + 1) l n false ∨ dragomanref03_Get.l0 (k + 4) l n = dragomanref03_Get.j3 (k + 2) l n false := by
  by_cases h : n < l.length
  · left
    rw [in_whole (k + 2) l n lo hn h (hb _), out_good k l n lo hn hl (hb _)]
  · right
    rw [in_end (k + 3) l n (by omega), out_good (k + 1) l n lo hn hl (hb _)]
/-- The bytes end within a unit. -/
theorem short (k : Nat) (l : List Int) (n lo hi : Int) (hn : 0 < n) (hl : n = l.length) (hb : ∀ k, dragomanref03_bounds.f (k + 1) (l.take n.toNat) = some (lo, hi)) (hh : hi ≠ 0) : dragomanref03_Get.l0 (k + 3) l n = some more := by
  rw [in_end (k + 2) l n hl, out_more k l n lo hi hn (by omega) (hb _) hh]

theorem ref_is (l : List Int) (hl : ∀ x ∈ l, Byte x) (k : Nat) : dragomanref03_Get.f (k + 30) l = some (dec l) := by
  unfold dragomanref03_Get.f
  match l, hl with
  | [], _ =>
    rw [in_end (k + 29) [] 0 rfl, dragomanref03_Get.j2, if_pos (by omega), if_pos (by simp), show ([] : List Int).take (0 : Int).toNat = [] from rfl, bounds0]
    simp only [Option.bind_some]
    rw [if_pos True.intro, end_none]
    rfl
  | a :: t, hl =>
    have ha : Byte a := hl a (by simp)
    rw [in_first, if_neg (by unfold Byte at ha; omega)]
    simp only [dec]
    by_cases c1 : a < 128
    · rw [if_pos c1, if_neg (by omega), if_neg (by omega)]
      rcases whole (k + 24) (a :: t) 1 0 (by omega) (by simp only [List.length_cons]; omega) (fun k => by rw [show (a :: t).take (1 : Int).toNat = [a] from rfl, bounds1, if_pos (by omega)]) with h | h
      · rw [h, num1 _ a t ha]
      · rw [h, num1 _ a t ha]
    · rw [if_neg c1]
      by_cases c2 : a < 194
      · rw [if_pos c2, if_neg (by omega), if_pos (by omega)]
      · rw [if_neg c2]
        by_cases c3 : 244 < a
        · rw [if_pos c3, if_pos c3]
        · rw [if_neg c3, if_neg c3, if_neg (by omega)]
          match t, hl with
          | [], _ =>
            obtain ⟨lo, hi, hb, hh, _⟩ := sec_iff (b := 0) c2 c3
            rw [short (k + 25) [a] 1 lo hi (by omega) rfl hb hh]
            by_cases c4 : a < 224
            · rw [if_pos c4]; rfl
            · rw [if_neg c4]
              by_cases c5 : a < 240
              · rw [if_pos c5]; rfl
              · rw [if_neg c5]; rfl
          | b :: t, hl =>
            have hb : Byte b := hl b (by simp)
            obtain ⟨lo, hi, hbd, hh, hiff⟩ := sec_iff (b := b) c2 c3
            rw [in_next (k + 26) (a :: b :: t) 1 lo hi b (by omega) (by omega) (by simp only [List.length_cons]; omega) (hbd _) hh rfl, show (1 : Int) + 1 = 2 by rfl]
            by_cases hs : Sec a b
            · rw [if_pos (hiff.2 hs)]
              have hcb : Con b := ⟨hs.1, hs.2.1⟩
              by_cases c4 : a < 224
              · rw [if_pos c4]
                simp only [dec2]
                rw [if_pos hcb]
                rcases whole (k + 22) (a :: b :: t) 2 0 (by omega) (by simp only [List.length_cons]; omega) (fun k => by rw [show (a :: b :: t).take (2 : Int).toNat = [a, b] from rfl, bounds2, if_pos c4]) with h | h
                · rw [h, num2 _ a b t ha hb]
                · rw [h, num2 _ a b t ha hb]
              · rw [if_neg c4]
                have hb2 : ∀ k, dragomanref03_bounds.f (k + 1) [a, b] = some (128, 191) := fun k => by rw [bounds2, if_neg c4]
                match t, hl with
                | [], _ =>
                  rw [short (k + 23) [a, b] 2 128 191 (by omega) rfl hb2 (by omega)]
                  by_cases c5 : a < 240
                  · rw [if_pos c5]
                    simp only [dec3]
                    rw [if_pos hs]
                  · rw [if_neg c5]
                    simp only [dec4]
                    rw [if_pos hs]
                | c :: t, hl =>
                  have hc : Byte c := hl c (by simp)
                  rw [in_next (k + 24) (a :: b :: c :: t) 2 128 191 c (by omega) (by omega) (by simp only [List.length_cons]; omega) (hb2 _) (by omega) rfl, show (2 : Int) + 1 = 3 by rfl]
                  by_cases hcc : Con c
                  · rw [if_pos (show 128 ≤ c ∧ c ≤ 191 from hcc)]
                    by_cases c5 : a < 240
                    · rw [if_pos c5]
                      simp only [dec3]
                      rw [if_pos hs, if_pos hcc]
                      rcases whole (k + 20) (a :: b :: c :: t) 3 0 (by omega) (by simp only [List.length_cons]; omega) (fun k => by rw [show (a :: b :: c :: t).take (3 : Int).toNat = [a, b, c] from rfl, bounds3, if_pos c5]) with h | h
                      · rw [h, num3 _ a b c t ha hb hc]
                      · rw [h, num3 _ a b c t ha hb hc]
                    · rw [if_neg c5]
                      have hb3 : ∀ k, dragomanref03_bounds.f (k + 1) [a, b, c] = some (128, 191) := fun k => by rw [bounds3, if_neg c5]
                      match t, hl with
                      | [], _ =>
                        rw [short (k + 21) [a, b, c] 3 128 191 (by omega) rfl hb3 (by omega)]
                        simp only [dec4]
                        rw [if_pos hs, if_pos hcc]
                      | d :: t, hl =>
                        have hd : Byte d := hl d (by simp)
                        rw [in_next (k + 22) (a :: b :: c :: d :: t) 3 128 191 d (by omega) (by omega) (by simp only [List.length_cons]; omega) (hb3 _) (by omega) rfl, show (3 : Int) + 1 = 4 by rfl]
                        simp only [dec4]
                        rw [if_pos hs, if_pos hcc]
                        by_cases hcd : Con d
                        · rw [if_pos (show 128 ≤ d ∧ d ≤ 191 from hcd), if_pos hcd]
                          rcases whole (k + 18) (a :: b :: c :: d :: t) 4 0 (by omega) (by simp only [List.length_cons]; omega) (fun k => by rw [show (a :: b :: c :: d :: t).take (4 : Int).toNat = [a, b, c, d] from rfl, bounds4]) with h | h
                          · rw [h, num4 _ a b c d t ha hb hc hd]
                          · rw [h, num4 _ a b c d t ha hb hc hd]
                        · rw [if_neg (show ¬ (128 ≤ d ∧ d ≤ 191) from hcd), if_neg hcd]
                  · rw [if_neg (show ¬ (128 ≤ c ∧ c ≤ 191) from hcc)]
                    by_cases c5 : a < 240
                    · rw [if_pos c5]
                      simp only [dec3]
                      rw [if_pos hs, if_neg hcc]
                    · rw [if_neg c5]
                      match t with
                      | [] =>
                        simp only [dec4]
                        rw [if_pos hs, if_neg hcc]
                      | d :: t =>
                        simp only [dec4]
                        rw [if_pos hs, if_neg hcc]
            · rw [if_neg (fun h => hs (hiff.1 h))]
              by_cases c4 : a < 224
              · rw [if_pos c4]
                have hnc : ¬ Con b := by unfold Sec at hs; unfold Con; omega
                simp only [dec2]
                rw [if_neg hnc]
              · rw [if_neg c4]
                by_cases c5 : a < 240
                · rw [if_pos c5]
                  match t with
                  | [] => simp only [dec3]; rw [if_neg hs]
                  | c :: t => simp only [dec3]; rw [if_neg hs]
                · rw [if_neg c5]
                  match t with
                  | [] => simp only [dec4]; rw [if_neg hs]
                  | [c] => simp only [dec4]; rw [if_neg hs]
                  | c :: d :: t => simp only [dec4]; rw [if_neg hs]

theorem refGetC (A0 : Option Addr) (c0 : Nat) (l0 : List Int) (r1 r2 r3 r4 r5 r6 r7 r8 r9 : Int) (w : World) (hr0 : Kd.C (Kd.int .u8) w A0 l0.length l0) (hc0 : l0.length ≤ c0) (hb : ∀ x ∈ l0, Byte x) (h : dec l0 = (r1, r2, r3, r4, r5, r6, r7, r8, r9)) :
    Calls Try.prog 17 #[.slice A0 l0.length c0] w fun e w' => e = .returned (.agg #[.int .i64 r1, .int .i64 r2, .int .i64 r3, .int .i32 r4, .int .i32 r5, .int .i64 r6, .int .i64 r7, .int .u32 r8, .int .i32 r9]) ∧ Below w.heap.size w w' :=
  dragomanref03_Get.calls 30 A0 c0 l0 r1 r2 r3 r4 r5 r6 r7 r8 r9 w hr0 hc0 (by rw [ref_is l0 hb 0, h])
theorem info5p : (Try.prog.info? 5).map (fun i => (i.zero, i.size, i.bytes)) = some (some (.int .u8 0), 1, 1) := by kernel_rfl
theorem enc_head {u : Int} (h : Scal u) : ∃ a r, enc u = a :: r ∧ ¬ Con a := by
  obtain ⟨h0, h1, _⟩ := h
  unfold enc Con
  split
  · exact ⟨_, _, rfl, by omega⟩
  · split
    · exact ⟨_, _, rfl, by omega⟩
    · split
      · exact ⟨_, _, rfl, by omega⟩
      · exact ⟨_, _, rfl, by omega⟩
/-- The scalars, how many bytes they are, and the error that ends it (0: none). -/
def scan3 : Nat → List Int → List Int × Nat × Int
  | 0, _ => ([], 0, 0)
  | _ + 1, [] => ([], 0, 0)
  | f + 1, a :: t => if (dec (a :: t)).1 = 0 then ((dec (a :: t)).2.2.2.1 :: (scan3 f ((a :: t).drop (dec (a :: t)).2.1.toNat)).1, (dec (a :: t)).2.1.toNat + (scan3 f ((a :: t).drop (dec (a :: t)).2.1.toNat)).2.1, (scan3 f ((a :: t).drop (dec (a :: t)).2.1.toNat)).2.2) else ([], 0, (dec (a :: t)).1)
theorem scan3_nil (f : Nat) : scan3 f [] = ([], 0, 0) := by cases f <;> rfl
theorem scan3_more {f : Nat} {r : List Int} (hr : r ≠ []) (h : dec r = more) : scan3 (f + 1) r = ([], 0, 1) := by
  match r, hr with
  | a :: t, _ => rw [scan3, h]; rfl
theorem scan3_bad {f n : Nat} {r : List Int} (hr : r ≠ []) (h : dec r = bad n) : scan3 (f + 1) r = ([], 0, 10) := by
  match r, hr with
  | a :: t, _ => rw [scan3, h]; rfl
theorem scan3_good {f : Nat} {u : Int} (t : List Int) (hu : Scal u) : scan3 (f + 1) (enc u ++ t) = (u :: (scan3 f t).1, (enc u).length + (scan3 f t).2.1, (scan3 f t).2.2) := by
  have h := dec_enc hu t
  obtain ⟨a, r, he, _⟩ := enc_head hu
  rw [he] at h ⊢
  rw [List.cons_append] at h ⊢
  rw [scan3, h]
  have h1 : (good ((a :: r).length : Int) u).2.1.toNat = (a :: r).length := by simp [good]
  have h2 : (good ((a :: r).length : Int) u).1 = 0 := rfl
  have h3 : (good ((a :: r).length : Int) u).2.2.2.1 = u := rfl
  rw [if_pos h2, h1, h3, show (a :: (r ++ t)).drop (a :: r).length = t by simp]
end Go.Proofs.Ytkbblppoalgkmaa.U8
