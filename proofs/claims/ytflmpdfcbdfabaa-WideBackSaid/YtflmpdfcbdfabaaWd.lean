/- Plain facts on encodings of two and of four bytes: what a unit's number is, what the first step is, what is written. No condition. -/
import Derived.RowKit
import Derived.WalkKit
namespace Go.Proofs.Ytflmpdfcbdfabaa.Wd
open Go.RowKit
def Byte (x : Int) : Prop := 0 ≤ x ∧ x < 256
def Scal (u : Int) : Prop := 0 ≤ u ∧ u ≤ 1114111 ∧ ¬ (55296 ≤ u ∧ u ≤ 57343)
instance (u : Int) : Decidable (Scal u) := inferInstanceAs (Decidable (_ ∧ _))
def Hi (x : Int) : Prop := 55296 ≤ x ∧ x < 56320
instance (u : Int) : Decidable (Hi u) := inferInstanceAs (Decidable (_ ∧ _))
def Lo (x : Int) : Prop := 56320 ≤ x ∧ x ≤ 57343
instance (u : Int) : Decidable (Lo u) := inferInstanceAs (Decidable (_ ∧ _))
/-- The number of some bytes, the highest first. -/
def numB (l : List Int) : Int := l.foldl (fun x c => x * 256 + c) 0
/-- .., the lowest first. -/
def numL : List Int → Int
  | [] => 0
  | c :: t => c + 256 * numL t
def num (low : Bool) (l : List Int) : Int := if low then numL l else numB l
theorem numB_snoc (l : List Int) (c : Int) : numB (l ++ [c]) = numB l * 256 + c := by simp [numB]
theorem numL_snoc (l : List Int) (c : Int) : numL (l ++ [c]) = numL l + 256 ^ l.length * c := by
  induction l with
  | nil => simp [numL]
  | cons a t ih =>
    simp only [List.cons_append, numL, ih, List.length_cons, Int.pow_succ]
    rw [Int.mul_add, show 256 * (256 ^ t.length * c) = 256 ^ t.length * 256 * c by rw [← Int.mul_assoc, Int.mul_comm 256]]
    omega
/-- A unit's bytes. -/
def un (low : Bool) (n : Int) (x : Int) : List Int :=
  if n = 2 then (if low then [x % 256, x / 256 % 256] else [x / 256 % 256, x % 256])
  else (if low then [x % 256, x / 256 % 256, x / 65536 % 256, x / 16777216 % 256] else [x / 16777216 % 256, x / 65536 % 256, x / 256 % 256, x % 256])
theorem un_len (low : Bool) {n : Int} (hn : n = 2 ∨ n = 4) (x : Int) : ((un low n x).length : Int) = n := by
  unfold un
  rcases hn with rfl | rfl <;> cases low <;> rfl
theorem un_byte (low : Bool) (n x : Int) : ∀ c ∈ un low n x, Byte c := by
  unfold un Byte
  intro c hc
  split at hc <;> cases low <;> simp at hc <;> omega
theorem num_un (low : Bool) {n x : Int} (h0 : 0 ≤ x) (h : (n = 2 ∧ x < 65536) ∨ (n = 4 ∧ x < 4294967296)) : num low (un low n x) = x := by
  rcases h with ⟨rfl, h⟩ | ⟨rfl, h⟩ <;> cases low <;> simp [un, num, numB, numL] <;> omega
/-- The first step of a kind without a mark: what is got of the front of bytes. -/
inductive GP (n : Int) (pairs low : Bool) (l : List Int) : Int → Int → Int → Int → Prop
  | short : (l.length : Int) < n → GP n pairs low l 1 0 0 0
  | sc : n ≤ l.length → Scal (num low (l.take n.toNat)) → GP n pairs low l 0 n 1 (num low (l.take n.toNat))
  | ill : n ≤ l.length → ¬ Scal (num low (l.take n.toNat)) → pairs = false ∨ ¬ Hi (num low (l.take n.toNat)) → GP n pairs low l 10 n 0 0
  | short2 : n = 2 → n ≤ l.length → pairs = true → Hi (num low (l.take n.toNat)) → l.length < 4 → GP n pairs low l 1 0 0 0
  | ill2 : n = 2 → pairs = true → Hi (num low (l.take n.toNat)) → 4 ≤ l.length → ¬ Lo (num low ((l.drop 2).take 2)) → GP n pairs low l 10 2 0 0
  | pair : n = 2 → pairs = true → Hi (num low (l.take n.toNat)) → 4 ≤ l.length → Lo (num low ((l.drop 2).take 2)) → GP n pairs low l 0 4 1 (65536 + (num low (l.take n.toNat) - 55296) * 1024 + (num low ((l.drop 2).take 2) - 56320))
theorem hi_not {x : Int} (h : Hi x) : ¬ Scal x := by
  unfold Hi at h
  unfold Scal
  omega
theorem gp_ex (n : Int) (pairs low : Bool) (l : List Int) (h : pairs = true → n = 2) : ∃ e k c u, GP n pairs low l e k c u := by
  by_cases c1 : (l.length : Int) < n
  · exact ⟨_, _, _, _, .short c1⟩
  · by_cases c2 : Scal (num low (l.take n.toNat))
    · exact ⟨_, _, _, _, .sc (by omega) c2⟩
    · by_cases c3 : pairs = false ∨ ¬ Hi (num low (l.take n.toNat))
      · exact ⟨_, _, _, _, .ill (by omega) c2 c3⟩
      · have hp : pairs = true := by cases pairs <;> simp_all
        have hh : Hi (num low (l.take n.toNat)) := by
          by_cases hx : Hi (num low (l.take n.toNat))
          · exact hx
          · exact absurd (.inr hx) c3
        by_cases c4 : l.length < 4
        · exact ⟨_, _, _, _, .short2 (h hp) (by omega) hp hh c4⟩
        · by_cases c5 : Lo (num low ((l.drop 2).take 2))
          · exact ⟨_, _, _, _, .pair (h hp) hp hh (by omega) c5⟩
          · exact ⟨_, _, _, _, .ill2 (h hp) hp hh (by omega) c5⟩
/-- A kind's shape, in a mode: how many bytes a unit has; pairs; marks; the lowest byte first. -/
def shp (kind mode : Int) : Option (Int × Bool × Bool × Bool) :=
  if kind = 3 then some (2, true, false, false) else if kind = 4 then some (2, true, false, true) else if kind = 5 then some (2, true, true, decide (mode = 2))
  else if kind = 6 then some (4, false, false, false) else if kind = 7 then some (4, false, false, true) else if kind = 8 then some (4, false, true, decide (mode = 2))
  else if kind = 9 then some (2, false, false, false) else if kind = 10 then some (2, false, false, true) else none
def Fit (marks : Bool) (mode bits acc held : Int) : Prop := bits = 0 ∧ acc = 0 ∧ held = 0 ∧ (mode = 0 ∨ marks = true ∧ (mode = 1 ∨ mode = 2))
instance (marks : Bool) (mode bits acc held : Int) : Decidable (Fit marks mode bits acc held) := inferInstanceAs (Decidable (_ ∧ _ ∧ _ ∧ (_ ∨ _)))
/-- What a step gets: error, how many bytes, how many scalars, the scalar, the mode behind it. -/
inductive GW (kind mode bits acc held : Int) (l : List Int) : Int → Int → Int → Int → Int → Prop
  | kind : shp kind mode = none → GW kind mode bits acc held l 5 0 0 0 0
  | state : ∀ n pairs marks low, shp kind mode = some (n, pairs, marks, low) → ¬ Fit marks mode bits acc held → GW kind mode bits acc held l 7 0 0 0 0
  | markB : ∀ n pairs low, shp kind mode = some (n, pairs, true, low) → Fit true mode bits acc held → mode = 0 → n ≤ l.length → num false (l.take n.toNat) = 65279 → GW kind mode bits acc held l 0 n 0 0 1
  | markL : ∀ n pairs low, shp kind mode = some (n, pairs, true, low) → Fit true mode bits acc held → mode = 0 → n ≤ l.length → num false (l.take n.toNat) ≠ 65279 → num true (l.take n.toNat) = 65279 → GW kind mode bits acc held l 0 n 0 0 2
  | noMark : ∀ n pairs low e k c u, shp kind mode = some (n, pairs, true, low) → Fit true mode bits acc held → mode = 0 → n ≤ l.length → num false (l.take n.toNat) ≠ 65279 → num true (l.take n.toNat) ≠ 65279 → GP n pairs low l e k c u → e ≠ 1 → GW kind mode bits acc held l e k c u 1
  | noMore : ∀ n pairs low k c u, shp kind mode = some (n, pairs, true, low) → Fit true mode bits acc held → mode = 0 → n ≤ l.length → num false (l.take n.toNat) ≠ 65279 → num true (l.take n.toNat) ≠ 65279 → GP n pairs low l 1 k c u → GW kind mode bits acc held l 1 k c u 0
  | few : ∀ n pairs low, shp kind mode = some (n, pairs, true, low) → Fit true mode bits acc held → mode = 0 → (l.length : Int) < n → GW kind mode bits acc held l 1 0 0 0 0
  | plain : ∀ n pairs marks low e k c u, shp kind mode = some (n, pairs, marks, low) → Fit marks mode bits acc held → ¬ (marks = true ∧ mode = 0) → GP n pairs low l e k c u → e ≠ 1 → GW kind mode bits acc held l e k c u mode
  | plainMore : ∀ n pairs marks low k c u, shp kind mode = some (n, pairs, marks, low) → Fit marks mode bits acc held → ¬ (marks = true ∧ mode = 0) → GP n pairs low l 1 k c u → GW kind mode bits acc held l 1 k c u 0
theorem shp_ok {kind mode n : Int} {pairs marks low : Bool} (h : shp kind mode = some (n, pairs, marks, low)) : (n = 2 ∨ n = 4) ∧ (pairs = true → n = 2) := by
  unfold shp at h
  repeat' split at h
  all_goals first | (cases h; done) | (simp at h; obtain ⟨rfl, rfl, rfl, _⟩ := h; simp)
theorem gw_ex (kind mode bits acc held : Int) (l : List Int) : ∃ e k c u m, GW kind mode bits acc held l e k c u m := by
  rcases hs : shp kind mode with _ | ⟨n, pairs, marks, low⟩
  · exact ⟨_, _, _, _, _, .kind hs⟩
  · obtain ⟨hn, hp⟩ := shp_ok hs
    by_cases hf : Fit marks mode bits acc held
    · by_cases hm : marks = true ∧ mode = 0
      · obtain ⟨rfl, h0⟩ := hm
        by_cases c1 : (l.length : Int) < n
        · exact ⟨_, _, _, _, _, .few n pairs low hs hf h0 c1⟩
        · by_cases c2 : num false (l.take n.toNat) = 65279
          · exact ⟨_, _, _, _, _, .markB n pairs low hs hf h0 (by omega) c2⟩
          · by_cases c3 : num true (l.take n.toNat) = 65279
            · exact ⟨_, _, _, _, _, .markL n pairs low hs hf h0 (by omega) c2 c3⟩
            · obtain ⟨e, k, c, u, hg⟩ := gp_ex n pairs low l hp
              by_cases he : e = 1
              · subst he
                exact ⟨_, _, _, _, _, .noMore n pairs low k c u hs hf h0 (by omega) c2 c3 hg⟩
              · exact ⟨_, _, _, _, _, .noMark n pairs low e k c u hs hf h0 (by omega) c2 c3 hg he⟩
      · obtain ⟨e, k, c, u, hg⟩ := gp_ex n pairs low l hp
        by_cases he : e = 1
        · subst he
          exact ⟨_, _, _, _, _, .plainMore n pairs marks low k c u hs hf hm hg⟩
        · exact ⟨_, _, _, _, _, .plain n pairs marks low e k c u hs hf hm hg he⟩
    · exact ⟨_, _, _, _, _, .state n pairs marks low hs hf⟩
/-- What is written of a number: error, bytes, the mode behind it. -/
inductive SW (kind mode bits acc held u : Int) : Int → List Int → Int → Prop
  | kind : shp kind mode = none → SW kind mode bits acc held u 5 [] 0
  | state : ∀ n pairs marks low, shp kind mode = some (n, pairs, marks, low) → ¬ Fit marks mode bits acc held → SW kind mode bits acc held u 7 [] 0
  | none : ∀ n pairs marks low, shp kind mode = some (n, pairs, marks, low) → Fit marks mode bits acc held → ¬ Scal u ∨ (n = 2 ∧ pairs = false ∧ 65535 < u) → SW kind mode bits acc held u 11 [] 0
  | one : ∀ n pairs marks low, shp kind mode = some (n, pairs, marks, low) → Fit marks mode bits acc held → Scal u → (n = 4 ∨ u < 65536) → ¬ (marks = true ∧ mode = 0) → SW kind mode bits acc held u 0 (un low n u) mode
  | two : ∀ marks low, shp kind mode = some (2, true, marks, low) → Fit marks mode bits acc held → Scal u → 65536 ≤ u → ¬ (marks = true ∧ mode = 0) → SW kind mode bits acc held u 0 (un low 2 (55296 + (u - 65536) / 1024) ++ un low 2 (56320 + (u - 65536) % 1024)) mode
  | mOne : ∀ n pairs low, shp kind mode = some (n, pairs, true, low) → Fit true mode bits acc held → Scal u → (n = 4 ∨ u < 65536) → mode = 0 → SW kind mode bits acc held u 0 (un false n 65279 ++ un low n u) 1
  | mTwo : ∀ low, shp kind mode = some (2, true, true, low) → Fit true mode bits acc held → Scal u → 65536 ≤ u → mode = 0 → SW kind mode bits acc held u 0 (un false 2 65279 ++ (un low 2 (55296 + (u - 65536) / 1024) ++ un low 2 (56320 + (u - 65536) % 1024))) 1
theorem sw_ex (kind mode bits acc held u : Int) : ∃ e b m, SW kind mode bits acc held u e b m := by
  rcases hs : shp kind mode with _ | ⟨n, pairs, marks, low⟩
  · exact ⟨_, _, _, .kind hs⟩
  · obtain ⟨hn, hp⟩ := shp_ok hs
    by_cases hf : Fit marks mode bits acc held
    · by_cases hx : ¬ Scal u ∨ (n = 2 ∧ pairs = false ∧ 65535 < u)
      · exact ⟨_, _, _, .none n pairs marks low hs hf hx⟩
      · have hu : Scal u := Classical.byContradiction fun h => hx (.inl h)
        by_cases h1 : n = 4 ∨ u < 65536
        · by_cases hm : marks = true ∧ mode = 0
          · obtain ⟨rfl, h0⟩ := hm
            exact ⟨_, _, _, .mOne n pairs low hs hf hu h1 h0⟩
          · exact ⟨_, _, _, .one n pairs marks low hs hf hu h1 hm⟩
        · obtain rfl : n = 2 := by omega
          obtain rfl : pairs = true := by
            cases pairs
            · exact absurd (.inr ⟨rfl, rfl, by omega⟩) hx
            · rfl
          by_cases hm : marks = true ∧ mode = 0
          · obtain ⟨rfl, h0⟩ := hm
            exact ⟨_, _, _, .mTwo low hs hf hu (by omega) h0⟩
          · exact ⟨_, _, _, .two marks low hs hf hu (by omega) hm⟩
    · exact ⟨_, _, _, .state n pairs marks low hs hf⟩
end Go.Proofs.Ytflmpdfcbdfabaa.Wd
