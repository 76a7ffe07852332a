/- Plain facts on UTF-8 as lists of numbers: what bytes a scalar has, what the front of bytes is. No condition. -/
import Derived.Laws.BitsLemmas
import Derived.RowKit
import Derived.WalkKit
import Derived.Test.YtkbblppoalgkmaaWSized
/-- The printed rows call the words' law by this name. -/
abbrev Go.Proofs.Ytkbblppoalgkmaa.PrintWords.sized_ints := @Go.Proofs.YtkbblppoalgkmaaW.PrintWords.sized_ints
namespace Go.Proofs.Ytkbblppoalgkmaa.U8
open Go.RowKit

abbrev Got := Int × Int × Int × Int × Int × Int × Int × Int × Int
def more : Got := (1, 0, 0, 0, 0, 0, 0, 0, 0)
def bad (n : Int) : Got := (10, n, 0, 0, 0, 0, 0, 0, 0)
def good (n u : Int) : Got := (0, n, 1, u, 0, 0, 0, 0, 0)
def Byte (x : Int) : Prop := 0 ≤ x ∧ x < 256
def Con (b : Int) : Prop := 128 ≤ b ∧ b ≤ 191
instance (b : Int) : Decidable (Con b) := inferInstanceAs (Decidable (_ ∧ _))
/-- May b stand behind a, of what begins with a? -/
def Sec (a b : Int) : Prop := 128 ≤ b ∧ b ≤ 191 ∧ (a = 224 → 160 ≤ b) ∧ (a = 237 → b ≤ 159) ∧ (a = 240 → 144 ≤ b) ∧ (a = 244 → b ≤ 143)
instance (a b : Int) : Decidable (Sec a b) := inferInstanceAs (Decidable (_ ∧ _))

def dec2 (a : Int) : List Int → Got
  | [] => more
  | b :: _ => if Con b then good 2 (a % 32 * 64 + b % 64) else bad 1
def dec3 (a : Int) : List Int → Got
  | [] => more
  | [b] => if Sec a b then more else bad 1
  | b :: c :: _ => if Sec a b then (if Con c then good 3 ((a % 16 * 64 + b % 64) * 64 + c % 64) else bad 2) else bad 1
def dec4 (a : Int) : List Int → Got
  | [] => more
  | [b] => if Sec a b then more else bad 1
  | [b, c] => if Sec a b then (if Con c then more else bad 2) else bad 1
  | b :: c :: d :: _ => if Sec a b then (if Con c then (if Con d then good 4 (((a % 8 * 64 + b % 64) * 64 + c % 64) * 64 + d % 64) else bad 3) else bad 2) else bad 1
def dec : List Int → Got
  | [] => more
  | a :: t => if a < 128 then good 1 a else if a < 194 then bad 1 else if 244 < a then bad 1 else if a < 224 then dec2 a t else if a < 240 then dec3 a t else dec4 a t

def Scal (u : Int) : Prop := 0 ≤ u ∧ u ≤ 1114111 ∧ ¬ (55296 ≤ u ∧ u ≤ 57343)
instance (u : Int) : Decidable (Scal u) := inferInstanceAs (Decidable (_ ∧ _))
def enc (u : Int) : List Int :=
  if u < 128 then [u] else if u < 2048 then [192 + u / 64, 128 + u % 64]
  else if u < 65536 then [224 + u / 4096, 128 + u / 64 % 64, 128 + u % 64]
  else [240 + u / 262144, 128 + u / 4096 % 64, 128 + u / 64 % 64, 128 + u % 64]

theorem enc_bytes {u : Int} (h : Scal u) : ∀ x ∈ enc u, Byte x := by
  obtain ⟨h0, h1, h2⟩ := h
  unfold enc Byte
  intro x hx
  split at hx
  · simp at hx; omega
  · split at hx
    · simp at hx; omega
    · split at hx
      · simp at hx; omega
      · simp at hx; omega

theorem dec_enc {u : Int} (h : Scal u) (t : List Int) : dec (enc u ++ t) = good (enc u).length u := by
  obtain ⟨h0, h1, h2⟩ := h
  unfold enc
  split
  · simp [dec, *]
  · split
    · simp only [List.cons_append, List.nil_append, dec, dec2]
      rw [if_neg (by omega), if_neg (by omega), if_neg (by omega), if_pos (by omega), if_pos (by unfold Con; omega)]
      simp only [List.length_cons, List.length_nil]
      congr 1
      omega
    · split
      · simp only [List.cons_append, List.nil_append, dec, dec3]
        rw [if_neg (by omega), if_neg (by omega), if_neg (by omega), if_neg (by omega), if_pos (by omega), if_pos (by unfold Sec; omega), if_pos (by unfold Con; omega)]
        simp only [List.length_cons, List.length_nil]
        congr 1
        omega
      · simp only [List.cons_append, List.nil_append, dec, dec4]
        rw [if_neg (by omega), if_neg (by omega), if_neg (by omega), if_neg (by omega), if_neg (by omega), if_pos (by unfold Sec; omega), if_pos (by unfold Con; omega), if_pos (by unfold Con; omega)]
        simp only [List.length_cons, List.length_nil]
        congr 1
        omega
end Go.Proofs.Ytkbblppoalgkmaa.U8
