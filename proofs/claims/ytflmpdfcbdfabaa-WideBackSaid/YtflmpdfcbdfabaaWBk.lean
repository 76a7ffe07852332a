/- Plain facts: what is written is read again, and what is read is written as it was. No condition. -/
import Derived.Test.YtflmpdfcbdfabaaWSizes
import Derived.Test.YtflmpdfcbdfabaaWTurn
namespace Go.Proofs.Ytflmpdfcbdfabaa.Wd
set_option linter.unusedVariables false
theorem take_un {low : Bool} {n u : Int} {l : List Int} (hn : n = 2 ∨ n = 4) : (un low n u ++ l).take n.toNat = un low n u := by
  have h := un_len low hn u
  rw [List.take_append_of_le_length (by omega), List.take_of_length_le (by omega)]
theorem gp_one {n : Int} {pairs low : Bool} {u : Int} (l : List Int) (hn : n = 2 ∨ n = 4) (hs : Scal u) (h1 : n = 4 ∨ u < 65536) : GP n pairs low (un low n u ++ l) 0 n 1 u := by
  have ht := take_un (low := low) (u := u) (l := l) hn
  have hx : num low (un low n u) = u := num_un low hs.1 (by have := hs.2.1; omega)
  have hl := un_len low hn u
  have h := GP.sc (n := n) (pairs := pairs) (low := low) (l := un low n u ++ l) (by rw [List.length_append]; omega) (by rw [ht, hx]; exact hs)
  rw [ht, hx] at h
  exact h
theorem gp_two {low : Bool} {u : Int} (l : List Int) (hs : Scal u) (h6 : 65536 ≤ u) : GP 2 true low (un low 2 (55296 + (u - 65536) / 1024) ++ (un low 2 (56320 + (u - 65536) % 1024) ++ l)) 0 4 1 u := by
  have h7 := hs.2.1
  have ht := take_un (low := low) (u := 55296 + (u - 65536) / 1024) (l := un low 2 (56320 + (u - 65536) % 1024) ++ l) (.inl rfl : (2 : Int) = 2 ∨ (2 : Int) = 4)
  have ht2 := take_un (low := low) (u := 56320 + (u - 65536) % 1024) (l := l) (.inl rfl : (2 : Int) = 2 ∨ (2 : Int) = 4)
  have hx : num low (un low 2 (55296 + (u - 65536) / 1024)) = 55296 + (u - 65536) / 1024 := num_un low (by omega) (by omega)
  have hy : num low (un low 2 (56320 + (u - 65536) % 1024)) = 56320 + (u - 65536) % 1024 := num_un low (by omega) (by omega)
  have hl := un_len low (.inl rfl : (2 : Int) = 2 ∨ (2 : Int) = 4) (55296 + (u - 65536) / 1024)
  have hl2 := un_len low (.inl rfl : (2 : Int) = 2 ∨ (2 : Int) = 4) (56320 + (u - 65536) % 1024)
  have hd : (un low 2 (55296 + (u - 65536) / 1024) ++ (un low 2 (56320 + (u - 65536) % 1024) ++ l)).drop 2 = un low 2 (56320 + (u - 65536) % 1024) ++ l := by
    rw [List.drop_append_of_le_length (by omega), List.drop_of_length_le (by omega), List.nil_append]
  rw [show (2 : Int).toNat = 2 from rfl] at ht ht2
  have h := GP.pair (n := 2) (pairs := true) (low := low) (l := un low 2 (55296 + (u - 65536) / 1024) ++ (un low 2 (56320 + (u - 65536) % 1024) ++ l)) rfl rfl
    (by rw [show (2 : Int).toNat = 2 from rfl, ht, hx]; unfold Hi; omega) (by rw [List.length_append, List.length_append]; omega) (by rw [hd, ht2, hy]; unfold Lo; omega)
  rw [show (2 : Int).toNat = 2 from rfl, ht, hx, hd, ht2, hy, show 65536 + (55296 + (u - 65536) / 1024 - 55296) * 1024 + (56320 + (u - 65536) % 1024 - 56320) = u by omega] at h
  exact h
theorem un_num2 (low : Bool) {a b : Int} (ha : Byte a) (hb : Byte b) : un low 2 (num low [a, b]) = [a, b] := by
  unfold Byte at ha hb
  cases low <;> simp [un, num, numB, numL] <;> omega
theorem un_num4 (low : Bool) {a b c d : Int} (ha : Byte a) (hb : Byte b) (hc : Byte c) (hd : Byte d) : un low 4 (num low [a, b, c, d]) = [a, b, c, d] := by
  unfold Byte at ha hb hc hd
  cases low <;> simp [un, num, numB, numL] <;> omega
theorem getD_byte {l : List Int} (hb : ∀ x ∈ l, Byte x) (p : Nat) : Byte (l.getD p 0) := by
  rw [List.getD_eq_getElem?_getD]
  rcases Nat.lt_or_ge p l.length with h | h
  · rw [List.getElem?_eq_getElem h]
    exact hb _ (List.getElem_mem h)
  · rw [List.getElem?_eq_none h]
    exact ⟨by decide, by decide⟩
theorem un_take {low : Bool} {n : Int} {l : List Int} (hn : n = 2 ∨ n = 4) (hb : ∀ x ∈ l, Byte x) (hl : n ≤ l.length) : un low n (num low (l.take n.toNat)) = l.take n.toNat := by
  rcases hn with rfl | rfl
  · rw [show (2 : Int).toNat = 2 from rfl, take2 (by omega)]
    exact un_num2 low (getD_byte hb _) (getD_byte hb _)
  · rw [show (4 : Int).toNat = 4 from rfl, take4 (by omega)]
    exact un_num4 low (getD_byte hb _) (getD_byte hb _) (getD_byte hb _) (getD_byte hb _)
theorem num2_lt {low : Bool} {l : List Int} (hb : ∀ x ∈ l, Byte x) (hl : 2 ≤ l.length) : num low (l.take 2) < 65536 := by
  rw [take2 hl]
  have h0 := getD_byte hb 0
  have h1 := getD_byte hb 1
  generalize l.getD 0 0 = a at *
  generalize l.getD 1 0 = b at *
  unfold Byte at h0 h1
  cases low <;> simp [num, numB, numL] <;> omega
theorem gp_back {kind mode n : Int} {pairs marks low : Bool} {l : List Int} {k s u : Int} (hk : shp kind mode = some (n, pairs, marks, low)) (hf : Fit marks mode 0 0 0) (hm : ¬ (marks = true ∧ mode = 0)) (hb : ∀ x ∈ l, Byte x) (h : GP n pairs low l 0 k s u) :
    ∃ j : Nat, k = (j : Int) ∧ j ≤ l.length ∧ SW kind mode 0 0 0 u 0 (l.take j) mode := by
  have hn := (shp_ok hk).1
  cases h with
  | sc hl hs =>
    have ht := un_take (low := low) hn hb hl
    have h1 : n = 4 ∨ num low (l.take n.toNat) < 65536 := by
      rcases hn with rfl | rfl
      · exact .inr (num2_lt hb (by omega))
      · exact .inl rfl
    have hsw := SW.one (kind := kind) (mode := mode) (bits := 0) (acc := 0) (held := 0) n pairs marks low hk hf hs h1 hm
    rw [ht] at hsw
    exact ⟨n.toNat, by omega, by omega, hsw⟩
  | pair h2 hp hh h4 hy =>
    subst h2 hp
    have hl2 : 2 ≤ (l.drop 2).length := by rw [List.length_drop]; omega
    have hb2 : ∀ x ∈ l.drop 2, Byte x := fun x hx => hb x (List.mem_of_mem_drop hx)
    have t1 := un_take (low := low) (.inl rfl : (2 : Int) = 2 ∨ (2 : Int) = 4) hb (by omega)
    have t2 := un_take (low := low) (.inl rfl : (2 : Int) = 2 ∨ (2 : Int) = 4) hb2 (by omega)
    rw [show (2 : Int).toNat = 2 from rfl] at t1 t2 hh
    rw [show (2 : Int).toNat = 2 from rfl] at *
    generalize hx : num low (l.take 2) = x at *
    generalize hyy : num low ((l.drop 2).take 2) = y at *
    unfold Hi at hh
    unfold Lo at hy
    have e1 : 55296 + (65536 + (x - 55296) * 1024 + (y - 56320) - 65536) / 1024 = x := by omega
    have e2 : 56320 + (65536 + (x - 55296) * 1024 + (y - 56320) - 65536) % 1024 = y := by omega
    have hsw := SW.two (kind := kind) (mode := mode) (bits := 0) (acc := 0) (held := 0) (u := 65536 + (x - 55296) * 1024 + (y - 56320)) marks low hk hf (by unfold Scal; omega) (by omega) hm
    rw [e1, e2, t1, t2, show l.take 2 ++ (l.drop 2).take 2 = l.take 4 by rw [take2 (by omega), drop2 h4, take4 h4]; rfl] at hsw
    exact ⟨4, rfl, h4, hsw⟩
end Go.Proofs.Ytflmpdfcbdfabaa.Wd
