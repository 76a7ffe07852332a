/- The document's own answers on encodings of two and of four bytes, as the print has them, are the plain facts' ones. No condition. -/
import Derived.Test.YtflmpdfcbdfabaaWc
import Derived.Test.YtflmpdfcbdfabaaPWideGetsx2
namespace Go.Proofs.Ytflmpdfcbdfabaa.Wd
open Go.RowKit Go.Proofs.YtflmpdfcbdfabaaW.PrintWords Go.Proofs.YtflmpdfcbdfabaaW.PrintLast Go.Proofs.YtflmpdfcbdfabaaW.PrintMore
section
open Go.Proofs.Ytflmpdfcbdfabaa.PWideGets
theorem shp_none {kind mode : Int} (h : shp kind mode = none) : kind < 3 ∨ 10 < kind := by
  unfold shp at h
  repeat' split at h
  all_goals first | (cases h; done) | omega
theorem g_has_none {kind mode : Int} (h : shp kind mode = none) : dragomanref04_Has.f kind = some false := by
  have := shp_none h
  unfold dragomanref04_Has.f
  split
  · rw [decide_eq_false (by omega)]
  · rfl
theorem kinds {kind mode n : Int} {pairs marks low : Bool} (h : shp kind mode = some (n, pairs, marks, low)) :
    (kind = 3 ∧ n = 2 ∧ pairs = true ∧ marks = false ∧ low = false) ∨ (kind = 4 ∧ n = 2 ∧ pairs = true ∧ marks = false ∧ low = true) ∨ (kind = 5 ∧ n = 2 ∧ pairs = true ∧ marks = true ∧ low = decide (mode = 2)) ∨
    (kind = 6 ∧ n = 4 ∧ pairs = false ∧ marks = false ∧ low = false) ∨ (kind = 7 ∧ n = 4 ∧ pairs = false ∧ marks = false ∧ low = true) ∨ (kind = 8 ∧ n = 4 ∧ pairs = false ∧ marks = true ∧ low = decide (mode = 2)) ∨
    (kind = 9 ∧ n = 2 ∧ pairs = false ∧ marks = false ∧ low = false) ∨ (kind = 10 ∧ n = 2 ∧ pairs = false ∧ marks = false ∧ low = true) := by
  unfold shp at h
  repeat' split at h
  all_goals first | (cases h; done) | (simp only [Option.some.injEq, Prod.mk.injEq] at h; obtain ⟨rfl, rfl, rfl, rfl⟩ := h; simp [*])
theorem g_has {kind mode n : Int} {pairs marks low : Bool} (h : shp kind mode = some (n, pairs, marks, low)) : dragomanref04_Has.f kind = some true := by
  rcases kinds h with ⟨rfl, _⟩ | ⟨rfl, _⟩ | ⟨rfl, _⟩ | ⟨rfl, _⟩ | ⟨rfl, _⟩ | ⟨rfl, _⟩ | ⟨rfl, _⟩ | ⟨rfl, _⟩ <;> rfl
theorem g_size {kind mode n : Int} {pairs marks low : Bool} (h : shp kind mode = some (n, pairs, marks, low)) : dragomanref04_size.f kind = some n := by
  rcases kinds h with ⟨rfl, rfl, _⟩ | ⟨rfl, rfl, _⟩ | ⟨rfl, rfl, _⟩ | ⟨rfl, rfl, _⟩ | ⟨rfl, rfl, _⟩ | ⟨rfl, rfl, _⟩ | ⟨rfl, rfl, _⟩ | ⟨rfl, rfl, _⟩ <;> rfl
theorem g_marked {kind mode n : Int} {pairs marks low : Bool} (h : shp kind mode = some (n, pairs, marks, low)) : dragomanref04_marked.f kind = some marks := by
  rcases kinds h with ⟨rfl, rfl, rfl, rfl, _⟩ | ⟨rfl, rfl, rfl, rfl, _⟩ | ⟨rfl, rfl, rfl, rfl, _⟩ | ⟨rfl, rfl, rfl, rfl, _⟩ | ⟨rfl, rfl, rfl, rfl, _⟩ | ⟨rfl, rfl, rfl, rfl, _⟩ | ⟨rfl, rfl, rfl, rfl, _⟩ | ⟨rfl, rfl, rfl, rfl, _⟩ <;> rfl
theorem g_little {kind mode n : Int} {pairs marks low : Bool} (h : shp kind mode = some (n, pairs, marks, low)) : dragomanref04_little.f kind mode = some low := by
  rcases kinds h with ⟨rfl, rfl, rfl, rfl, rfl⟩ | ⟨rfl, rfl, rfl, rfl, rfl⟩ | ⟨rfl, rfl, rfl, rfl, rfl⟩ | ⟨rfl, rfl, rfl, rfl, rfl⟩ | ⟨rfl, rfl, rfl, rfl, rfl⟩ | ⟨rfl, rfl, rfl, rfl, rfl⟩ | ⟨rfl, rfl, rfl, rfl, rfl⟩ | ⟨rfl, rfl, rfl, rfl, rfl⟩ <;> rfl
theorem g_little1 {kind n : Int} {pairs marks low : Bool} (h : shp kind 0 = some (n, pairs, marks, low)) : dragomanref04_little.f kind 1 = some low := by
  rcases kinds h with ⟨rfl, rfl, rfl, rfl, rfl⟩ | ⟨rfl, rfl, rfl, rfl, rfl⟩ | ⟨rfl, rfl, rfl, rfl, rfl⟩ | ⟨rfl, rfl, rfl, rfl, rfl⟩ | ⟨rfl, rfl, rfl, rfl, rfl⟩ | ⟨rfl, rfl, rfl, rfl, rfl⟩ | ⟨rfl, rfl, rfl, rfl, rfl⟩ | ⟨rfl, rfl, rfl, rfl, rfl⟩ <;> rfl
theorem g_fits {kind mode n : Int} {pairs marks low : Bool} (bits acc held : Int) (h : shp kind mode = some (n, pairs, marks, low)) : dragomanref04_Fits.f kind mode bits acc held = some (decide (Fit marks mode bits acc held)) := by
  unfold dragomanref04_Fits.f
  rw [g_marked h]
  simp only [Option.bind_some]
  unfold Fit
  by_cases hb : bits = 0 <;> by_cases ha : acc = 0 <;> by_cases hh : held = 0 <;> cases marks <;> simp [*] <;> (repeat' split) <;> simp <;> omega
theorem nat2 {l : List Int} (h : 2 ≤ l.length) : ∃ a b t, l = a :: b :: t := by
  match l, h with
  | a :: b :: t, _ => exact ⟨a, b, t, rfl⟩
theorem nat4 {l : List Int} (h : 4 ≤ l.length) : ∃ a b c d t, l = a :: b :: c :: d :: t := by
  match l, h with
  | a :: b :: c :: d :: t, _ => exact ⟨a, b, c, d, t, rfl⟩
theorem w64 {x : Int} (h0 : -9223372036854775808 ≤ x) (h1 : x ≤ 9223372036854775807) : wrap64 x = x := by unfold wrap64; omega
theorem g_num {l : List Int} (hb : ∀ x ∈ l, Byte x) (low : Bool) {n : Int} (hn : n = 2 ∨ n = 4) (hl : n ≤ l.length) (K : Nat) : dragomanref04_number.f (K + 5) l n low = some (num low (l.take n.toNat)) := by
  rcases hn with rfl | rfl
  · obtain ⟨a, b, t, rfl⟩ := nat2 (l := l) (by omega)
    have h0 := hb a (by simp)
    have h1 := hb b (by simp)
    unfold Byte at h0 h1
    have hlen : (0 : Int) ≤ (t.length : Int) := by omega
    unfold dragomanref04_number.f
    cases low <;> simp [dragomanref04_number.l0, w64, rd, num, numB, numL] <;> (try rw [if_pos (by omega)]) <;> (try rw [if_pos (by omega)]) <;> (try simp) <;> omega
  · obtain ⟨a, b, c, d, t, rfl⟩ := nat4 (l := l) (by omega)
    have h0 := hb a (by simp)
    have h1 := hb b (by simp)
    have h2 := hb c (by simp)
    have h3 := hb d (by simp)
    unfold Byte at h0 h1 h2 h3
    unfold dragomanref04_number.f
    cases low <;> simp [dragomanref04_number.l0, w64, rd, num, numB, numL] <;> (try rw [if_pos (by omega)]) <;> (try rw [if_pos (by omega)]) <;> (try rw [if_pos (by omega)]) <;> (try rw [if_pos (by omega)]) <;> (try simp) <;> omega
theorem w32 {x : Int} (h0 : -2147483648 ≤ x) (h1 : x ≤ 2147483647) : wrap32 x = x := by unfold wrap32; omega
theorem g_scal (u : Int) : dragomanref01_Scalar.f u = some (decide (Scal u)) := by
  unfold dragomanref01_Scalar.f Scal
  by_cases h0 : u ≥ 0 <;> by_cases h1 : u ≤ 1114111 <;> by_cases h2 : u < 55296 <;> by_cases h3 : u > 57343 <;> simp [h0, h1, h2, h3] <;> omega
theorem g_high (u : Int) : dragomanref01_High.f u = some (decide (Hi u)) := by
  unfold dragomanref01_High.f Hi
  by_cases h0 : u ≥ 55296 <;> by_cases h1 : u ≤ 56319 <;> simp [h0, h1] <;> omega
theorem g_low (u : Int) : dragomanref01_Low.f u = some (decide (Lo u)) := by
  unfold dragomanref01_Low.f Lo
  by_cases h0 : u ≥ 56320 <;> by_cases h1 : u ≤ 57343 <;> simp [h0, h1] <;> omega
theorem g_join {x y : Int} (hx : Hi x) : dragomanref01_Join.f x y = some (if Lo y then (65536 + (x - 55296) * 1024 + (y - 56320), true) else (0, false)) := by
  unfold dragomanref01_Join.f
  rw [g_high, decide_eq_true hx]
  simp only [Option.bind_some, if_true]
  rw [g_low]
  simp only [Option.bind_some]
  by_cases hy : Lo y
  · rw [decide_eq_true hy, if_pos rfl, if_pos hy]
    unfold Hi at hx
    unfold Lo at hy
    rw [w32 (x := x - 55296) (by omega) (by omega), w32 (x := (x - 55296) * 1024) (by omega) (by omega), w32 (x := 65536 + _) (by omega) (by omega), w32 (x := y - 56320) (by omega) (by omega), w32 (by omega) (by omega)]
  · rw [decide_eq_false hy, if_neg (by simp), if_neg hy]
theorem num_bd {l : List Int} (hb : ∀ x ∈ l, Byte x) (low : Bool) {n : Int} (hn : n = 2 ∨ n = 4) (hl : n ≤ l.length) : 0 ≤ num low (l.take n.toNat) ∧ (n = 2 → num low (l.take n.toNat) < 65536) ∧ num low (l.take n.toNat) < 4294967296 := by
  rcases hn with rfl | rfl
  · obtain ⟨a, b, t, rfl⟩ := nat2 (l := l) (by omega)
    have h0 := hb a (by simp)
    have h1 := hb b (by simp)
    unfold Byte at h0 h1
    cases low <;> simp [num, numB, numL] <;> omega
  · obtain ⟨a, b, c, d, t, rfl⟩ := nat4 (l := l) (by omega)
    have h0 := hb a (by simp)
    have h1 := hb b (by simp)
    have h2 := hb c (by simp)
    have h3 := hb d (by simp)
    unfold Byte at h0 h1 h2 h3
    cases low <;> simp [num, numB, numL] <;> omega
end
end Go.Proofs.Ytflmpdfcbdfabaa.Wd
