/- More plain facts on UTF-8: what the first step of bytes is, one of three; what is passed over is none of a unit behind. -/
import Derived.Test.YtkbblppoalgkmaaU8
namespace Go.Proofs.Ytkbblppoalgkmaa.U8
open Go.RowKit

theorem dec_good1 {a : Int} (ha : Byte a) (h : a < 128) : Scal a ∧ enc a = [a] := by
  unfold Byte at ha
  refine ⟨by unfold Scal; omega, ?_⟩
  unfold enc
  rw [if_pos h]
theorem dec_good2 {a b : Int} (h : ¬ a < 194) (h2 : a < 224) (hb : Con b) : Scal (a % 32 * 64 + b % 64) ∧ enc (a % 32 * 64 + b % 64) = [a, b] := by
  unfold Con at hb
  refine ⟨by unfold Scal; omega, ?_⟩
  unfold enc
  rw [if_neg (by omega), if_pos (by omega)]
  simp only [List.cons.injEq, and_true]
  omega
theorem dec_good3 {a b c : Int} (h : ¬ a < 224) (h2 : a < 240) (hb : Sec a b) (hc : Con c) : Scal ((a % 16 * 64 + b % 64) * 64 + c % 64) ∧ enc ((a % 16 * 64 + b % 64) * 64 + c % 64) = [a, b, c] := by
  unfold Con at hc
  unfold Sec at hb
  refine ⟨by unfold Scal; omega, ?_⟩
  unfold enc
  rw [if_neg (by omega), if_neg (by omega), if_pos (by omega)]
  simp only [List.cons.injEq, and_true]
  omega
theorem dec_good4 {a b c d : Int} (h : ¬ a < 240) (h2 : ¬ 244 < a) (hb : Sec a b) (hc : Con c) (hd : Con d) : Scal (((a % 8 * 64 + b % 64) * 64 + c % 64) * 64 + d % 64) ∧ enc (((a % 8 * 64 + b % 64) * 64 + c % 64) * 64 + d % 64) = [a, b, c, d] := by
  unfold Con at hc hd
  unfold Sec at hb
  refine ⟨by unfold Scal; omega, ?_⟩
  unfold enc
  rw [if_neg (by omega), if_neg (by omega), if_neg (by omega)]
  simp only [List.cons.injEq, and_true]
  omega
/-- The first step: too few bytes (fewer than four), so many that are none, or a scalar's own bytes. -/
theorem dec_cases (l : List Int) (hl : ∀ x ∈ l, Byte x) :
    (dec l = more ∧ l.length < 4) ∨ (∃ n : Nat, 1 ≤ n ∧ n ≤ 3 ∧ n ≤ l.length ∧ dec l = bad n) ∨ (∃ u t, Scal u ∧ l = enc u ++ t ∧ dec l = good (enc u).length u) := by
  match l, hl with
  | [], _ => exact .inl ⟨rfl, by decide⟩
  | a :: t, hl =>
    have ha := hl a (by simp)
    simp only [dec]
    by_cases c1 : a < 128
    · obtain ⟨h1, h2⟩ := dec_good1 ha c1
      exact .inr (.inr ⟨a, t, h1, by rw [h2]; rfl, by rw [if_pos c1, h2]; rfl⟩)
    · rw [if_neg c1]
      by_cases c2 : a < 194
      · exact .inr (.inl ⟨1, by omega, by omega, by simp, by rw [if_pos c2]; rfl⟩)
      · rw [if_neg c2]
        by_cases c3 : 244 < a
        · exact .inr (.inl ⟨1, by omega, by omega, by simp, by rw [if_pos c3]; rfl⟩)
        · rw [if_neg c3]
          by_cases c4 : a < 224
          · rw [if_pos c4]
            match t with
            | [] => exact .inl ⟨rfl, by simp⟩
            | b :: t =>
              simp only [dec2]
              by_cases hb : Con b
              · obtain ⟨h1, h2⟩ := dec_good2 c2 c4 hb
                exact .inr (.inr ⟨_, t, h1, by rw [h2]; rfl, by rw [if_pos hb, h2]; rfl⟩)
              · exact .inr (.inl ⟨1, by omega, by omega, by simp, by rw [if_neg hb]; rfl⟩)
          · rw [if_neg c4]
            by_cases c5 : a < 240
            · rw [if_pos c5]
              match t with
              | [] => exact .inl ⟨rfl, by simp⟩
              | [b] =>
                simp only [dec3]
                by_cases hb : Sec a b
                · exact .inl ⟨by rw [if_pos hb], by simp⟩
                · exact .inr (.inl ⟨1, by omega, by omega, by simp, by rw [if_neg hb]; rfl⟩)
              | b :: c :: t =>
                simp only [dec3]
                by_cases hb : Sec a b
                · rw [if_pos hb]
                  by_cases hc : Con c
                  · obtain ⟨h1, h2⟩ := dec_good3 c4 c5 hb hc
                    exact .inr (.inr ⟨_, t, h1, by rw [h2]; rfl, by rw [if_pos hc, h2]; rfl⟩)
                  · exact .inr (.inl ⟨2, by omega, by omega, by simp, by rw [if_neg hc]; rfl⟩)
                · exact .inr (.inl ⟨1, by omega, by omega, by simp, by rw [if_neg hb]; rfl⟩)
            · rw [if_neg c5]
              match t with
              | [] => exact .inl ⟨rfl, by simp⟩
              | [b] =>
                simp only [dec4]
                by_cases hb : Sec a b
                · exact .inl ⟨by rw [if_pos hb], by simp⟩
                · exact .inr (.inl ⟨1, by omega, by omega, by simp, by rw [if_neg hb]; rfl⟩)
              | [b, c] =>
                simp only [dec4]
                by_cases hb : Sec a b
                · rw [if_pos hb]
                  by_cases hc : Con c
                  · exact .inl ⟨by rw [if_pos hc], by simp⟩
                  · exact .inr (.inl ⟨2, by omega, by omega, by simp, by rw [if_neg hc]; rfl⟩)
                · exact .inr (.inl ⟨1, by omega, by omega, by simp, by rw [if_neg hb]; rfl⟩)
              | b :: c :: d :: t =>
                simp only [dec4]
                by_cases hb : Sec a b
                · rw [if_pos hb]
                  by_cases hc : Con c
                  · rw [if_pos hc]
                    by_cases hd : Con d
                    · obtain ⟨h1, h2⟩ := dec_good4 c5 c3 hb hc hd
                      exact .inr (.inr ⟨_, t, h1, by rw [h2]; rfl, by rw [if_pos hd, h2]; rfl⟩)
                    · exact .inr (.inl ⟨3, by omega, by omega, by simp, by rw [if_neg hd]; rfl⟩)
                  · exact .inr (.inl ⟨2, by omega, by omega, by simp, by rw [if_neg hc]; rfl⟩)
                · exact .inr (.inl ⟨1, by omega, by omega, by simp, by rw [if_neg hb]; rfl⟩)
theorem enc_len_bd (u : Int) : 1 ≤ (enc u).length ∧ (enc u).length ≤ 4 := by
  unfold enc
  repeat' split
  all_goals simp
end Go.Proofs.Ytkbblppoalgkmaa.U8
