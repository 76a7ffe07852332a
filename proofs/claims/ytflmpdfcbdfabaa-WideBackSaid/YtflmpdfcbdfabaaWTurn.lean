/- Plain facts on units whose bytes are turned about: the first step is the same in the other order. No condition. -/
import Derived.Test.YtflmpdfcbdfabaaWd
namespace Go.Proofs.Ytflmpdfcbdfabaa.Wd
set_option linter.unusedVariables false
/-- The bytes below a place are turned about within their units of n. -/
def turn (n q : Nat) (l : List Int) : List Int := (List.range l.length).map fun p => if p < q then l.getD (p / n * n + (n - 1 - p % n)) 0 else l.getD p 0
theorem turn_len (n q : Nat) (l : List Int) : (turn n q l).length = l.length := by simp [turn]
theorem turn_zero (n : Nat) (l : List Int) : turn n 0 l = l := by
  apply List.ext_getElem
  · simp [turn]
  · intro i h1 h2
    simp [turn, List.getD_eq_getElem?_getD, List.getElem?_eq_getElem h2]
theorem turn_get {n q : Nat} {l : List Int} {p : Nat} (hp : p < l.length) : (turn n q l)[p]'(by rw [turn_len]; exact hp) = if p < q then l.getD (p / n * n + (n - 1 - p % n)) 0 else l.getD p 0 := by simp [turn]
theorem div_at {n i k : Nat} (hn : 0 < n) (hi : i % n = 0) (hk : k < n) : (i + k) / n * n = i ∧ (i + k) % n = k := by
  obtain ⟨c, rfl⟩ := Nat.dvd_of_mod_eq_zero hi
  constructor
  · rw [Nat.mul_add_div hn, Nat.div_eq_of_lt hk, Nat.add_zero, Nat.mul_comm]
  · rw [Nat.mul_add_mod, Nat.mod_eq_of_lt hk]
theorem turn_step {n i k : Nat} {l : List Int} (hn : 0 < n) (hi : i % n = 0) (hk : k < n) (hl : i + n ≤ l.length) : (turn n (i + k) l).set (i + k) (l.getD (i + n - 1 - k) 0) = turn n (i + k + 1) l := by
  obtain ⟨h1, h2⟩ := div_at hn hi hk
  apply List.ext_getElem
  · simp [turn]
  · intro p hp1 hp2
    rw [turn_len] at hp2
    rw [List.getElem_set]
    by_cases hpe : i + k = p
    · subst hpe
      rw [if_pos rfl, turn_get hp2, if_pos (by omega), h1, h2]
      congr 1
      omega
    · rw [if_neg hpe, turn_get hp2, turn_get hp2]
      by_cases hlt : p < i + k
      · rw [if_pos hlt, if_pos (by omega)]
      · rw [if_neg hlt, if_neg (by omega)]
/-- Where the turned units end: no whole unit is left behind. -/
def Whole (n q len : Nat) : Prop := q % n = 0 ∧ q ≤ len ∧ len < q + n
theorem take2 {l : List Int} (h : 2 ≤ l.length) : l.take 2 = [l.getD 0 0, l.getD 1 0] := by
  match l, h with
  | a :: b :: t, _ => rfl
theorem take4 {l : List Int} (h : 4 ≤ l.length) : l.take 4 = [l.getD 0 0, l.getD 1 0, l.getD 2 0, l.getD 3 0] := by
  match l, h with
  | a :: b :: c :: d :: t, _ => rfl
theorem drop2 {l : List Int} (h : 4 ≤ l.length) : (l.drop 2).take 2 = [l.getD 2 0, l.getD 3 0] := by
  match l, h with
  | a :: b :: c :: d :: t, _ => rfl
theorem getD_turn {n q : Nat} {l : List Int} {p : Nat} (hp : p < l.length) : (turn n q l).getD p 0 = if p < q then l.getD (p / n * n + (n - 1 - p % n)) 0 else l.getD p 0 := by
  rw [List.getD_eq_getElem?_getD, List.getElem?_eq_getElem (by rw [turn_len]; exact hp), Option.getD_some, turn_get hp]
theorem num2 (a b : Int) : num false [a, b] = num true [b, a] := by simp [num, numB, numL]; omega
theorem num4 (a b c d : Int) : num false [a, b, c, d] = num true [d, c, b, a] := by simp [num, numB, numL]; omega
theorem turn_first2 {q : Nat} {l : List Int} (h : Whole 2 q l.length) (hl : 2 ≤ l.length) : num true ((turn 2 q l).take 2) = num false (l.take 2) := by
  obtain ⟨h1, h2, h3⟩ := h
  rw [take2 hl, take2 (by rw [turn_len]; exact hl), getD_turn (by omega), getD_turn (by omega), if_pos (by omega), if_pos (by omega), num2]
theorem turn_second2 {q : Nat} {l : List Int} (h : Whole 2 q l.length) (hl : 4 ≤ l.length) : num true (((turn 2 q l).drop 2).take 2) = num false ((l.drop 2).take 2) := by
  obtain ⟨h1, h2, h3⟩ := h
  rw [drop2 hl, drop2 (by rw [turn_len]; exact hl), getD_turn (by omega), getD_turn (by omega), if_pos (by omega), if_pos (by omega), num2]
theorem turn_first4 {q : Nat} {l : List Int} (h : Whole 4 q l.length) (hl : 4 ≤ l.length) : num true ((turn 4 q l).take 4) = num false (l.take 4) := by
  obtain ⟨h1, h2, h3⟩ := h
  rw [take4 hl, take4 (by rw [turn_len]; exact hl), getD_turn (by omega), getD_turn (by omega), getD_turn (by omega), getD_turn (by omega), if_pos (by omega), if_pos (by omega), if_pos (by omega), if_pos (by omega), num4]
theorem turn_gp {n : Nat} {pairs : Bool} {q : Nat} {l : List Int} {e k s u : Int} (hn : n = 2 ∨ n = 4) (hw : Whole n q l.length) (h : GP (n : Int) pairs false l e k s u) : GP (n : Int) pairs true (turn n q l) e k s u := by
  have hlen := turn_len n q l
  have f1 : (n : Int) ≤ l.length → num false (l.take (n : Int).toNat) = num true ((turn n q l).take (n : Int).toNat) := by
    intro hl
    rw [Int.toNat_natCast]
    rcases hn with rfl | rfl
    · exact (turn_first2 hw (by omega)).symm
    · exact (turn_first4 hw (by omega)).symm
  have f2 : n = 2 → 4 ≤ l.length → num false ((l.drop 2).take 2) = num true (((turn n q l).drop 2).take 2) := by
    rintro rfl hl
    exact (turn_second2 hw hl).symm
  cases h with
  | short h => exact .short (by rw [hlen]; exact h)
  | sc h hs =>
    rw [f1 h] at hs ⊢
    exact .sc (by rw [hlen]; exact h) hs
  | ill h hs ho =>
    rw [f1 h] at hs ho
    exact .ill (by rw [hlen]; exact h) hs ho
  | short2 h2 h hp hh h4 =>
    rw [f1 h] at hh
    exact .short2 h2 (by rw [hlen]; exact h) hp hh (by rw [hlen]; exact h4)
  | ill2 h2 hp hh h4 hy =>
    rw [f1 (by omega)] at hh
    rw [f2 (by omega) h4] at hy
    exact .ill2 h2 hp hh (by rw [hlen]; exact h4) hy
  | pair h2 hp hh h4 hy =>
    rw [f1 (by omega)] at hh ⊢
    rw [f2 (by omega) h4] at hy ⊢
    exact .pair h2 hp hh (by rw [hlen]; exact h4) hy
theorem turn_byte {n q : Nat} {l : List Int} (hb : ∀ x ∈ l, Byte x) : ∀ x ∈ turn n q l, Byte x := by
  have hg : ∀ p, Byte (l.getD p 0) := by
    intro p
    rw [List.getD_eq_getElem?_getD]
    rcases Nat.lt_or_ge p l.length with h | h
    · rw [List.getElem?_eq_getElem h]
      exact hb _ (List.getElem_mem h)
    · rw [List.getElem?_eq_none h]
      exact ⟨by decide, by decide⟩
  intro x hx
  simp only [turn, List.mem_map] at hx
  obtain ⟨p, _, rfl⟩ := hx
  split <;> exact hg _
end Go.Proofs.Ytflmpdfcbdfabaa.Wd
