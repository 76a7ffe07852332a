/- Ranges, slices of pairs and of ranges, opened: what lies in their cells. -/
import Derived.Deep.Slices
import Derived.Deep.Fields
import Derived.ChangeSame
import Derived.SizedLaws
import Derived.ChangeArms
import Derived.Lib.SmallJoins
import Derived.Test.YtnapldildjnchaaProg
namespace Go.Proofs.Ytnapldildjnchaa.Rp
open Go.ChangeShapes Go.WideShapes Go.Deep
section
variable {H : Type} {enc : TypeId × Value → H} {P : Program} {w : World} {base : Nat} {spare : Nat → Bool} {held : Bool}
theorem open_slice_fields {t e : TypeId} {fs : Array Field} {fuel : Nat} {cs : List Value} {x : DataW H × List MemPlace} (ht : P.underlying t = some (.slice e)) (he : P.underlying e = some (.struct fs))
    (hone : oneCellFields P fs = true) (hC : P.cellsOf e = fs.size) (h : DataW.trod enc P w base spare held fuel t cs = some x) :
    (cs = [.slice none 0 0] ∧ x = (.nil, [])) ∨
    ∃ (a : Addr) (len cap m : Nat) (D : Nat → DataW H) (Pl : Nat → List MemPlace), cs = [.slice (some a) len cap] ∧ base ≤ a.block ∧ len ≤ cap ∧ cap ≤ maxLen ∧ m = (if spare a.block then cap else len) ∧
      x = (.slice ((List.range len).map D) ((List.range (m - len)).map fun j => D (len + j)), MemPlace.row a (m * fs.size) ++ (List.range m).flatMap Pl) ∧
      ∀ i, i < m → ∃ (ys : List (DataW H × List MemPlace)) (n : Nat), D i = .agg (ys.map (·.1)) ∧ Pl i = ys.flatMap (·.2) ∧ ys.length = fs.size ∧
        ∀ (j : Nat) (f : Field), fs[j]? = some f → ∃ (v : Value) (y : DataW H × List MemPlace), w.cell? (a.add (i * fs.size + j)) = some v ∧ ys[j]? = some y ∧ DataW.trod enc P w base spare held n f.type [v] = some y := by
  rcases open_slice ht h with h0 | ⟨a, len, cap, m, n, D, Pl, hcs, hb, hl, hm, hmm, hx, hi⟩
  · exact .inl h0
  · refine .inr ⟨a, len, cap, m, D, Pl, hcs, hb, hl, hm, hmm, by rw [hC] at hx; exact hx, fun i him => ?_⟩
    obtain ⟨cs', hc, ht'⟩ := hi i him
    rw [hC] at hc
    obtain ⟨ys, n', hn', hy, hlen, hyl, hf⟩ := DataW.trod_struct he ht'
    obtain ⟨_, hcl, hat⟩ := World.cells?_some hc
    simp only [Prod.mk.injEq] at hy
    refine ⟨ys, n', hy.1, hy.2, hyl, fun j f hj => ?_⟩
    obtain ⟨ho, hk⟩ := hone_of hone j f hj
    have hjl : j < fs.size := (Array.getElem?_eq_some_iff.1 hj).1
    have hcell := hat j hjl
    have hv : cs'[j]? = some (cs'[j]'(by omega)) := List.getElem?_eq_getElem (by omega)
    have h1 := hf j f hj
    rw [ho, hk] at h1
    have hone' : (cs'.drop j).take 1 = [cs'[j]'(by omega)] := by
      rw [List.drop_eq_getElem_cons (by omega)]
      rfl
    rw [hone'] at h1
    have hys : ys[j]? = some (ys[j]'(by omega)) := List.getElem?_eq_getElem (by omega)
    refine ⟨_, _, ?_, hys, h1.trans hys⟩
    rw [← Go.Deep.add_add, hcell, hv]
end
theorem pick {α : Type} (z : α) {m : Nat} {Q : Nat → α → Prop} (h : ∀ i, i < m → ∃ p, Q i p) : ∃ f : Nat → α, ∀ i, i < m → Q i (f i) :=
  ⟨fun i => if g : i < m then Classical.choose (h i g) else z, fun i g => by
    show Q i (if g : i < m then Classical.choose (h i g) else z)
    rw [dif_pos g]
    exact Classical.choose_spec (h i g)⟩
/-- What a slice of structs of whole numbers holds. -/
def Row {α : Type} (W : World) (size : Nat) (K : α → List Value) (D : α → Prop) (a : Option Addr) (len cap : Nat) (l : List α) : Prop :=
  l.length = len ∧ len ≤ cap ∧ cap ≤ maxLen ∧ (0 < len → ∃ x, a = some x ∧ ∀ (i : Nat) (p : α), l[i]? = some p → ∀ (j : Nat) (v : Value), (K p)[j]? = some v → W.cell? (x.add (i * size + j)) = some v) ∧ ∀ p ∈ l, D p
def PairK (p : Int × Int) : List Value := [.int .i64 p.1, .int .i32 p.2]
def PairD (p : Int × Int) : Prop := (Lit.int .i64 p.1).wf = true ∧ (Lit.int .i32 p.2).wf = true
def RangeK (p : Int × Int × Int) : List Value := [.int .i64 p.1, .int .i64 p.2.1, .int .i32 p.2.2]
def RangeD (p : Int × Int × Int) : Prop := (Lit.int .i64 p.1).wf = true ∧ (Lit.int .i64 p.2.1).wf = true ∧ (Lit.int .i32 p.2.2).wf = true
variable {H : Type} {enc : TypeId × Value → H} {W : World} {base : Nat} {spare : Nat → Bool} {held : Bool} {a : Option Addr} {len cap : Nat} {d : DataW H} {ps : List MemPlace}
theorem open_pairs (h : DataW.Trod enc Try.prog W base spare held 22 (.slice a len cap) d ps) : ∃ l, Row W 2 PairK PairD a len cap l := by
  obtain ⟨fuel, hf⟩ := h
  rcases open_slice_fields Try.underlying22 Try.underlying41 (by kernel_rfl) (by kernel_rfl) hf with ⟨hcs, _⟩ | ⟨x, l, c, m, D, Pl, hcs, hb, hl, hm, hmm, hx, hi⟩
  · simp [Value.cells] at hcs
    obtain ⟨rfl, rfl, rfl⟩ := hcs
    exact ⟨[], rfl, Nat.le_refl _, by simp [maxLen], fun h => absurd h (Nat.lt_irrefl _), by simp⟩
  · simp [Value.cells] at hcs
    obtain ⟨rfl, rfl, rfl⟩ := hcs
    have hml : len ≤ m := by
      rw [hmm]
      split
      · exact hl
      · exact Nat.le_refl _
    obtain ⟨f, hf⟩ := pick ((0, 0) : Int × Int) (m := len) (Q := fun i p => (W.cell? (x.add (i * 2)) = some (.int .i64 p.1) ∧ W.cell? (x.add (i * 2 + 1)) = some (.int .i32 p.2)) ∧ PairD p) (fun i hil => by
      obtain ⟨ys, n, _, _, _, hq⟩ := hi i (by omega)
      obtain ⟨v0, y0, c0, _, t0⟩ := hq 0 _ rfl
      obtain ⟨v1, y1, c1, _, t1⟩ := hq 1 _ rfl
      obtain ⟨n0, e0, _, w0⟩ := DataW.trod_int Try.underlying3 t0
      obtain ⟨n1, e1, _, w1⟩ := DataW.trod_int Try.underlying21 t1
      obtain rfl : v0 = _ := by simpa using e0
      obtain rfl : v1 = _ := by simpa using e1
      exact ⟨(n0, n1), ⟨c0, c1⟩, w0, w1⟩)
    refine ⟨(List.range len).map f, by simp, hl, hm, fun _ => ⟨x, rfl, fun i p hp j v hv => ?_⟩, fun p hp => ?_⟩
    · obtain ⟨hil, rfl⟩ : i < len ∧ p = f i := by
        rw [List.getElem?_map] at hp
        rcases Nat.lt_or_ge i len with h | h
        · rw [List.getElem?_range h] at hp
          exact ⟨h, by simpa using hp.symm⟩
        · rw [List.getElem?_eq_none (by simpa using h)] at hp
          cases hp
      obtain ⟨⟨h0, h1⟩, _⟩ := hf i hil
      match j, hv with
      | 0, hv => cases hv; exact h0
      | 1, hv => cases hv; exact h1
      | j + 2, hv => simp [PairK] at hv
    · obtain ⟨i, hi', rfl⟩ := List.mem_map.1 hp
      exact (hf i (by simpa using hi')).2
theorem sized_pairs {ts : List TypeId} {ds : List (DataW H)} {j : Nat} (hsz : (DataW.weightsEach Try.prog ts ds).all (· ≤ reachBytes) = true) (ht : ts[j]? = some 22) (hd : ds[j]? = some d) (h : DataW.Trod enc Try.prog W base spare held 22 (.slice a len cap) d ps) : len * 16 ≤ 140737488351232 := by
  obtain ⟨fuel, hf⟩ := h
  rcases open_slice_fields Try.underlying22 Try.underlying41 (by kernel_rfl) (by kernel_rfl) hf with ⟨hcs, _⟩ | ⟨x, l, c, m, D, Pl, hcs, hb, hl, hm, hmm, hx, hi⟩
  · simp [Value.cells] at hcs
    obtain ⟨rfl, rfl, rfl⟩ := hcs
    simp
  · simp [Value.cells] at hcs
    obtain ⟨rfl, rfl, rfl⟩ := hcs
    obtain ⟨hx, _⟩ := Prod.mk.inj hx
    subst hx
    have z := sized_slice hsz ht hd Try.underlying22
    have hB : Try.prog.bytesOf 41 = 16 := by kernel_rfl
    rw [hB] at z
    have h1 : ((List.range len).map D).length = len := by simp
    rw [h1] at z
    refine Nat.le_trans (Nat.mul_le_mul_right _ (Nat.le_add_right len _)) z
theorem open_ranges (h : DataW.Trod enc Try.prog W base spare held 23 (.slice a len cap) d ps) : ∃ l, Row W 3 RangeK RangeD a len cap l := by
  obtain ⟨fuel, hf⟩ := h
  rcases open_slice_fields Try.underlying23 Try.underlying44 (by kernel_rfl) (by kernel_rfl) hf with ⟨hcs, _⟩ | ⟨x, l, c, m, D, Pl, hcs, hb, hl, hm, hmm, hx, hi⟩
  · simp [Value.cells] at hcs
    obtain ⟨rfl, rfl, rfl⟩ := hcs
    exact ⟨[], rfl, Nat.le_refl _, by simp [maxLen], fun h => absurd h (Nat.lt_irrefl _), by simp⟩
  · simp [Value.cells] at hcs
    obtain ⟨rfl, rfl, rfl⟩ := hcs
    have hml : len ≤ m := by
      rw [hmm]
      split
      · exact hl
      · exact Nat.le_refl _
    obtain ⟨f, hf⟩ := pick ((0, 0, 0) : Int × Int × Int) (m := len) (Q := fun i p => (W.cell? (x.add (i * 3)) = some (.int .i64 p.1) ∧ W.cell? (x.add (i * 3 + 1)) = some (.int .i64 p.2.1) ∧ W.cell? (x.add (i * 3 + 2)) = some (.int .i32 p.2.2)) ∧ RangeD p) (fun i hil => by
      obtain ⟨ys, n, _, _, _, hq⟩ := hi i (by omega)
      obtain ⟨v0, y0, c0, _, t0⟩ := hq 0 _ rfl
      obtain ⟨v1, y1, c1, _, t1⟩ := hq 1 _ rfl
      obtain ⟨v2, y2, c2, _, t2⟩ := hq 2 _ rfl
      obtain ⟨n0, e0, _, w0⟩ := DataW.trod_int Try.underlying3 t0
      obtain ⟨n1, e1, _, w1⟩ := DataW.trod_int Try.underlying3 t1
      obtain ⟨n2, e2, _, w2⟩ := DataW.trod_int Try.underlying21 t2
      obtain rfl : v0 = _ := by simpa using e0
      obtain rfl : v1 = _ := by simpa using e1
      obtain rfl : v2 = _ := by simpa using e2
      exact ⟨(n0, n1, n2), ⟨c0, c1, c2⟩, w0, w1, w2⟩)
    refine ⟨(List.range len).map f, by simp, hl, hm, fun _ => ⟨x, rfl, fun i p hp j v hv => ?_⟩, fun p hp => ?_⟩
    · obtain ⟨hil, rfl⟩ : i < len ∧ p = f i := by
        rw [List.getElem?_map] at hp
        rcases Nat.lt_or_ge i len with h | h
        · rw [List.getElem?_range h] at hp
          exact ⟨h, by simpa using hp.symm⟩
        · rw [List.getElem?_eq_none (by simpa using h)] at hp
          cases hp
      obtain ⟨⟨h0, h1, h2⟩, _⟩ := hf i hil
      match j, hv with
      | 0, hv => cases hv; exact h0
      | 1, hv => cases hv; exact h1
      | 2, hv => cases hv; exact h2
      | j + 3, hv => simp [RangeK] at hv
    · obtain ⟨i, hi', rfl⟩ := List.mem_map.1 hp
      exact (hf i (by simpa using hi')).2
theorem sized_ranges {ts : List TypeId} {ds : List (DataW H)} {j : Nat} (hsz : (DataW.weightsEach Try.prog ts ds).all (· ≤ reachBytes) = true) (ht : ts[j]? = some 23) (hd : ds[j]? = some d) (h : DataW.Trod enc Try.prog W base spare held 23 (.slice a len cap) d ps) : len * 24 ≤ 140737488351232 := by
  obtain ⟨fuel, hf⟩ := h
  rcases open_slice_fields Try.underlying23 Try.underlying44 (by kernel_rfl) (by kernel_rfl) hf with ⟨hcs, _⟩ | ⟨x, l, c, m, D, Pl, hcs, hb, hl, hm, hmm, hx, hi⟩
  · simp [Value.cells] at hcs
    obtain ⟨rfl, rfl, rfl⟩ := hcs
    simp
  · simp [Value.cells] at hcs
    obtain ⟨rfl, rfl, rfl⟩ := hcs
    obtain ⟨hx, _⟩ := Prod.mk.inj hx
    subst hx
    have z := sized_slice hsz ht hd Try.underlying23
    have hB : Try.prog.bytesOf 44 = 24 := by kernel_rfl
    rw [hB] at z
    have h1 : ((List.range len).map D).length = len := by simp
    rw [h1] at z
    refine Nat.le_trans (Nat.mul_le_mul_right _ (Nat.le_add_right len _)) z
open Go.Joins in
theorem open_range {w : World} {r : Reach} {b0 : Nat} {v : Value} {d : DataW H} {p : List MemPlace} (hv : Value.okWide Try.prog w r b0 44 v) (h : DataW.Trod enc Try.prog w base spare held 44 v d p) :
    ∃ a b c : Int, v = .agg #[.int .i64 a, .int .i64 b, .int .i32 c] ∧ d = .agg [.lit (.int .i64 a), .lit (.int .i64 b), .lit (.int .i32 c)] ∧ p = [] ∧ (Lit.int .i64 a).wf = true ∧ (Lit.int .i64 b).wf = true ∧ (Lit.int .i32 c).wf = true := by
  obtain ⟨v0, v1, v2, y0, y1, y2, n, rfl, rfl, rfl, h0, h1, h2⟩ := open_agg3 Try.underlying44 (by kernel_rfl) (by kernel_rfl) hv h
  obtain ⟨a, e0, rfl, w0⟩ := DataW.trod_int Try.underlying3 h0
  obtain ⟨b, e1, rfl, w1⟩ := DataW.trod_int Try.underlying3 h1
  obtain ⟨c, e2, rfl, w2⟩ := DataW.trod_int Try.underlying21 h2
  simp only [List.cons.injEq, and_true] at e0 e1 e2
  subst e0 e1 e2
  exact ⟨a, b, c, rfl, rfl, rfl, w0, w1, w2⟩
open Go.Joins in
theorem shut_range {w : World} {a b c : Int} (w0 : (Lit.int .i64 a).wf = true) (w1 : (Lit.int .i64 b).wf = true) (w2 : (Lit.int .i32 c).wf = true) :
    DataW.Trod enc Try.prog w base spare held 44 (.agg #[.int .i64 a, .int .i64 b, .int .i32 c]) (.agg [.lit (.int .i64 a), .lit (.int .i64 b), .lit (.int .i32 c)]) [] :=
  shut_agg3 (y0 := (.lit (.int .i64 a), [])) (y1 := (.lit (.int .i64 b), [])) (y2 := (.lit (.int .i32 c), [])) Try.underlying44 (by kernel_rfl) (by kernel_rfl) ⟨1, trod_int_mk 0 Try.underlying3 w0⟩ ⟨1, trod_int_mk 0 Try.underlying3 w1⟩ ⟨1, trod_int_mk 0 Try.underlying21 w2⟩
end Go.Proofs.Ytnapldildjnchaa.Rp
