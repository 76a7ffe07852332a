/- What utf8.Get and the reference's Get come to of any bytes, in plain words; and their contracts in those words. -/
import Derived.Test.YtkbblppoalgkmaaPDenseTellsx2
import Derived.Test.YtkbblppoalgkmaaU8
import Derived.OpenShut
namespace Go.Proofs.Ytkbblppoalgkmaa.U8
open Go.RowKit Go.Proofs.Ytkbblppoalgkmaa.PDenseTells Go.Proofs.YtkbblppoalgkmaaW.PrintWords Go.Proofs.YtkbblppoalgkmaaW.PrintLast

theorem rd0 (a : Int) (t : List Int) : rd (a :: t) 0 = a := rfl
theorem rd1 (a b : Int) (t : List Int) : rd (a :: b :: t) 1 = b := rfl
theorem rd2 (a b c : Int) (t : List Int) : rd (a :: b :: c :: t) 2 = c := rfl
theorem rd3 (a b c d : Int) (t : List Int) : rd (a :: b :: c :: d :: t) 3 = d := rfl

theorem wants_is (a : Int) (k : Nat) : utf8_wants.f (k + 1) a = some (if a < 128 then 1 else if a < 194 then 0 else if 244 < a then 0 else if a < 224 then 2 else if a < 240 then 3 else 4) := by
  unfold utf8_wants.f
  simp only [utf8_wants.j0]
  repeat' split
  all_goals first | rfl | (exfalso; simp at *; done) | (exfalso; simp at *; omega)
theorem second_yes {a b : Int} (h : Sec a b) : utf8_second.f a b = some true := by
  unfold Sec at h
  unfold utf8_second.f
  repeat' split
  all_goals first | rfl | (simp; omega) | (exfalso; omega)
theorem second_no {a b : Int} (h : ¬ Sec a b) : utf8_second.f a b = some false := by
  unfold Sec at h
  unfold utf8_second.f
  repeat' split
  all_goals first | rfl | (simp; omega) | (exfalso; omega)

/-- One byte more of a unit. -/
theorem join6 {u b : Int} (hu : 0 ≤ u) (hu2 : u < 1000000) (hb : Byte b) : Go.bits .or .i32 (wrap32 (u * 64)) (wrap32 (Go.bits .and .u8 b 63)) = u * 64 + b % 64 := by
  rw [u8_and63 b hb.1 hb.2, show wrap32 (u * 64) = u * 64 by unfold wrap32; omega, show wrap32 (b % 64) = b % 64 by unfold wrap32; omega, i32_or6 (u * 64) (b % 64) (by omega) (by omega) (by omega) (by omega) (by omega)]
theorem con_div {b : Int} (hb : Byte b) : b / 64 = 2 ↔ Con b := by unfold Byte at hb; unfold Con; omega
theorem mask2 {a : Int} (h : Byte a) : Go.bits .and .i32 (wrap32 a) (wrap32 (shl .i32 1 (wrap64 (7 - 2)) - 1)) = a % 32 := by
  rw [show wrap32 a = a by unfold Byte at h; unfold wrap32; omega, show wrap32 (shl .i32 1 (wrap64 (7 - 2)) - 1) = 2 ^ 5 - 1 by decide +kernel]
  exact bits_mask .i32 31 (by decide) wraps_i32 5 (by decide) a h.1 (by unfold Byte at h; omega)
theorem mask3 {a : Int} (h : Byte a) : Go.bits .and .i32 (wrap32 a) (wrap32 (shl .i32 1 (wrap64 (7 - 3)) - 1)) = a % 16 := by
  rw [show wrap32 a = a by unfold Byte at h; unfold wrap32; omega, show wrap32 (shl .i32 1 (wrap64 (7 - 3)) - 1) = 2 ^ 4 - 1 by decide +kernel]
  exact bits_mask .i32 31 (by decide) wraps_i32 4 (by decide) a h.1 (by unfold Byte at h; omega)
theorem mask4 {a : Int} (h : Byte a) : Go.bits .and .i32 (wrap32 a) (wrap32 (shl .i32 1 (wrap64 (7 - 4)) - 1)) = a % 8 := by
  rw [show wrap32 a = a by unfold Byte at h; unfold wrap32; omega, show wrap32 (shl .i32 1 (wrap64 (7 - 4)) - 1) = 2 ^ 3 - 1 by decide +kernel]
  exact bits_mask .i32 31 (by decide) wraps_i32 3 (by decide) a h.1 (by unfold Byte at h; omega)

/-! ### The loop, a round at a time -/
theorem get_end (k : Nat) (l : List Int) (n u : Int) : utf8_Get.l0 (k + 1) l n u n = some (good n u) := by
  simp only [utf8_Get.l0]
  rw [if_neg (by omega)]
  rfl
theorem get_more (k : Nat) (l : List Int) (n u i : Int) (h : i < n) (hl : i = l.length) : utf8_Get.l0 (k + 1) l n u i = some more := by
  simp only [utf8_Get.l0]
  rw [if_pos h, if_pos hl]
  rfl
theorem get_first (k : Nat) (a b : Int) (t : List Int) (n u : Int) (h : 1 < n) (hb : Byte b) (hu : 0 ≤ u) (hu2 : u < 1000000) : utf8_Get.l0 (k + 1) (a :: b :: t) n u 1 = if Sec a b then utf8_Get.l0 k (a :: b :: t) n (u * 64 + b % 64) 2 else some (bad 1) := by
  simp only [utf8_Get.l0]
  rw [if_pos h, if_neg (by simp only [List.length_cons]; omega), if_pos (by omega), if_pos (by simp only [List.length_cons]; omega), if_pos True.intro, if_pos (by simp only [List.length_cons]; omega), rd0, rd1, join6 hu hu2 hb, show wrap64 (1 + 1) = 2 by decide +kernel]
  by_cases hs : Sec a b
  · have hc : Con b := ⟨hs.1, hs.2.1⟩
    rw [second_yes hs, if_pos hs]
    simp only [Option.bind_some, if_true]
    rw [if_pos ((con_div hb).2 hc)]
  · rw [second_no hs, if_neg hs]
    rfl
theorem get_next (k : Nat) (l : List Int) (n u i b : Int) (h : i < n) (hi : 1 < i) (hi2 : i < 10) (hl : i < l.length) (hr : rd l i = b) (hb : Byte b) (hu : 0 ≤ u) (hu2 : u < 1000000) : utf8_Get.l0 (k + 1) l n u i = if Con b then utf8_Get.l0 k l n (u * 64 + b % 64) (i + 1) else some (bad i) := by
  simp only [utf8_Get.l0]
  rw [if_pos h, if_neg (by omega), if_pos (by omega), if_pos hl, if_neg (by omega), hr, join6 hu hu2 hb, show wrap64 (i + 1) = i + 1 by unfold wrap64; omega]
  by_cases hc : Con b
  · rw [if_pos hc, if_pos ((con_div hb).2 hc)]
  · rw [if_neg hc, if_neg (fun h => hc ((con_div hb).1 h))]
    rfl

theorem get_is (l : List Int) (hl : ∀ x ∈ l, Byte x) (k : Nat) : utf8_Get.f (k + 6) l = some (dec l) := by
  match l, hl with
  | [], _ => rfl
  | a :: t, hl =>
    have ha : Byte a := hl a (by simp)
    unfold utf8_Get.f
    rw [if_neg (by simp only [List.length_cons]; omega), if_pos (by simp only [List.length_cons]; omega), rd0, wants_is]
    simp only [Option.bind_some, dec]
    by_cases c1 : a < 128
    · rw [if_pos c1, if_pos c1, if_neg (by omega), if_neg (by omega)]
      simp only [utf8_Get.j0]
      rw [get_end, show wrap32 a = a by unfold Byte at ha; unfold wrap32; omega]
    · rw [if_neg c1, if_neg c1]
      by_cases c2 : a < 194
      · rw [if_pos c2, if_pos c2, if_pos rfl]
        rfl
      · rw [if_neg c2, if_neg c2]
        by_cases c3 : 244 < a
        · rw [if_pos c3, if_pos c3, if_pos rfl]
          rfl
        · rw [if_neg c3, if_neg c3]
          by_cases c4 : a < 224
          · rw [if_pos c4, if_pos c4, if_neg (by omega), if_pos (by omega), if_pos (by decide +kernel), mask2 ha]
            simp only [utf8_Get.j0]
            match t, hl with
            | [], _ => rw [get_more _ _ _ _ _ (by omega) (by simp)]; rfl
            | b :: t, hl =>
              rw [get_first _ a b t 2 _ (by omega) (hl b (by simp)) (by omega) (by omega)]
              have hs : Sec a b ↔ Con b := by unfold Sec Con; omega
              unfold dec2
              by_cases hc : Con b
              · rw [if_pos (hs.2 hc), get_end]
                simp [hc]
              · rw [if_neg (fun h => hc (hs.1 h))]
                simp [hc]
          · rw [if_neg c4, if_neg c4]
            by_cases c5 : a < 240
            · rw [if_pos c5, if_pos c5, if_neg (by omega), if_pos (by omega), if_pos (by decide +kernel), mask3 ha]
              simp only [utf8_Get.j0]
              match t, hl with
              | [], _ => rw [get_more _ _ _ _ _ (by omega) (by simp)]; rfl
              | b :: t, hl =>
                have hb := hl b (by simp)
                rw [get_first _ a b t 3 _ (by omega) hb (by omega) (by omega)]
                match t, hl with
                | [], _ =>
                  unfold dec3
                  rw [get_more _ _ _ _ _ (by omega) (by simp)]
                  by_cases hs : Sec a b <;> simp [hs]
                | c :: t, hl =>
                  unfold dec3
                  rw [get_next _ (a :: b :: c :: t) 3 _ 2 c (by omega) (by omega) (by omega) (by simp only [List.length_cons]; omega) rfl (hl c (by simp)) (by unfold Byte at hb; omega) (by unfold Byte at hb; omega), show (2 : Int) + 1 = 3 by rfl, get_end]
                  by_cases hs : Sec a b <;> by_cases h3 : Con c <;> simp [hs, h3]
            · rw [if_neg c5, if_neg c5, if_neg (by omega), if_pos (by omega), if_pos (by decide +kernel), mask4 ha]
              simp only [utf8_Get.j0]
              match t, hl with
              | [], _ => rw [get_more _ _ _ _ _ (by omega) (by simp)]; rfl
              | b :: t, hl =>
                have hb := hl b (by simp)
                rw [get_first _ a b t 4 _ (by omega) hb (by omega) (by omega)]
                match t, hl with
                | [], _ =>
                  unfold dec4
                  rw [get_more _ _ _ _ _ (by omega) (by simp)]
                  by_cases hs : Sec a b <;> simp [hs]
                | c :: t, hl =>
                  have hc := hl c (by simp)
                  rw [get_next _ (a :: b :: c :: t) 4 _ 2 c (by omega) (by omega) (by omega) (by simp only [List.length_cons]; omega) rfl hc (by unfold Byte at hb; omega) (by unfold Byte at hb; omega), show (2 : Int) + 1 = 3 by rfl]
                  match t, hl with
                  | [], _ =>
                    unfold dec4
                    rw [get_more _ _ _ _ _ (by omega) (by simp)]
                    by_cases hs : Sec a b <;> by_cases h3 : Con c <;> simp [hs, h3]
                  | d :: t, hl =>
                    unfold dec4
                    rw [get_next _ (a :: b :: c :: d :: t) 4 _ 3 d (by omega) (by omega) (by omega) (by simp only [List.length_cons]; omega) rfl (hl d (by simp)) (by unfold Byte at hb hc; omega) (by unfold Byte at hb hc; omega), show (3 : Int) + 1 = 4 by rfl, get_end]
                    by_cases hs : Sec a b <;> by_cases h3 : Con c <;> by_cases h4 : Con d <;> simp [hs, h3, h4]

/-! ### The reference -/
end Go.Proofs.Ytkbblppoalgkmaa.U8
