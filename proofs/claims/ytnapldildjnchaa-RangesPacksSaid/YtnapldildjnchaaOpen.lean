/- Slices of pairs and of ranges, opened: what lies in their cells. -/
import Derived.Deep.Slices
import Derived.Deep.Fields
import Derived.ChangeSame
import Derived.SizedLaws
import Derived.ChangeArms
import Derived.Test.YtnapldildjnchaaPRangesPacksx0
namespace Go.Proofs.Ytnapldildjnchaa.Rp
open Go.ChangeShapes Go.WideShapes Go.Deep
section
variable {H : Type} {enc : TypeId × Value → H} {P : Program} {w : World} {base : Nat} {spare : Nat → Bool} {held : Bool}
theorem open_slice_fields {t e : TypeId} {fs : Array Field} {fuel : Nat} {cs : List Value} {x : DataW H × List MemPlace} (ht : P.underlying t = some (.slice e)) (he : P.underlying e = some (.struct fs))
    (hone : oneCellFields P fs = true) (hC : P.cellsOf e = fs.size) (h : DataW.trod enc P w base spare held fuel t cs = some x) :
    (cs = [.slice none 0 0] ∧ x = (.nil, [])) ∨
    ∃ (a : Addr) (len cap m : Nat) (D : Nat → DataW H) (Pl : Nat → List MemPlace), cs = [.slice (some a) len cap] ∧ base ≤ a.block ∧ len ≤ cap ∧ cap ≤ maxLen ∧ m = (if spare a.block then cap else len) ∧
      x = (.slice ((List.range len).map D) ((List.range (m - len)).map fun j => D (len + j)), MemPlace.row a (m * fs.size) ++ (List.range m).flatMap Pl) ∧
      ∀ i, i < m → ∃ (ys : List (DataW H × List MemPlace)) (n : Nat), D i = .agg (ys.map (·.1)) ∧ Pl i = ys.flatMap (·.2) ∧ ys.length = fs.size ∧
        ∀ (j : Nat) (f : Field), fs[j]? = some f → ∃ (v : Value) (y : DataW H × List MemPlace), w.cell? (a.add (i * fs.size + j)) = some v ∧ ys[j]? = some y ∧ DataW.trod enc P w base spare held n f.type [v] = some y := by
  rcases open_slice ht h with h0 | ⟨a, len, cap, m, n, D, Pl, hcs, hb, hl, hm, hmm, hx, hi⟩
  · exact .inl h0
  · refine .inr ⟨a, len, cap, m, D, Pl, hcs, hb, hl, hm, hmm, by rw [hC] at hx; exact hx, fun i him => ?_⟩
    obtain ⟨cs', hc, ht'⟩ := hi i him
    rw [hC] at hc
    obtain ⟨ys, n', hn', hy, hlen, hyl, hf⟩ := DataW.trod_struct he ht'
    obtain ⟨_, hcl, hat⟩ := World.cells?_some hc
    simp only [Prod.mk.injEq] at hy
    refine ⟨ys, n', hy.1, hy.2, hyl, fun j f hj => ?_⟩
    obtain ⟨ho, hk⟩ := hone_of hone j f hj
    have hjl : j < fs.size := (Array.getElem?_eq_some_iff.1 hj).1
    have hcell := hat j hjl
    have hv : cs'[j]? = some (cs'[j]'(by omega)) := List.getElem?_eq_getElem (by omega)
    have h1 := hf j f hj
    rw [ho, hk] at h1
    have hone' : (cs'.drop j).take 1 = [cs'[j]'(by omega)] := by
      rw [List.drop_eq_getElem_cons (by omega)]
      rfl
    rw [hone'] at h1
    have hys : ys[j]? = some (ys[j]'(by omega)) := List.getElem?_eq_getElem (by omega)
    refine ⟨_, _, ?_, hys, h1.trans hys⟩
    rw [← Go.Deep.add_add, hcell, hv]
end
theorem pick {α : Type} (z : α) {m : Nat} {Q : Nat → α → Prop} (h : ∀ i, i < m → ∃ p, Q i p) : ∃ f : Nat → α, ∀ i, i < m → Q i (f i) :=
  ⟨fun i => if g : i < m then Classical.choose (h i g) else z, fun i g => by
    show Q i (if g : i < m then Classical.choose (h i g) else z)
    rw [dif_pos g]
    exact Classical.choose_spec (h i g)⟩
/-- What a slice of structs of whole numbers holds. -/
def Row {α : Type} (W : World) (size : Nat) (K : α → List Value) (D : α → Prop) (a : Option Addr) (len cap : Nat) (l : List α) : Prop :=
  l.length = len ∧ len ≤ cap ∧ cap ≤ maxLen ∧ (0 < len → ∃ x, a = some x ∧ ∀ (i : Nat) (p : α), l[i]? = some p → ∀ (j : Nat) (v : Value), (K p)[j]? = some v → W.cell? (x.add (i * size + j)) = some v) ∧ ∀ p ∈ l, D p
def PairK (p : Int × Int) : List Value := [.int .i64 p.1, .int .i32 p.2]
def PairD (p : Int × Int) : Prop := (Lit.int .i64 p.1).wf = true ∧ (Lit.int .i32 p.2).wf = true
def RangeK (p : Int × Int × Int) : List Value := [.int .i64 p.1, .int .i64 p.2.1, .int .i32 p.2.2]
def RangeD (p : Int × Int × Int) : Prop := (Lit.int .i64 p.1).wf = true ∧ (Lit.int .i64 p.2.1).wf = true ∧ (Lit.int .i32 p.2.2).wf = true
variable {H : Type} {enc : TypeId × Value → H} {W : World} {base : Nat} {spare : Nat → Bool} {held : Bool} {a : Option Addr} {len cap : Nat} {d : DataW H} {ps : List MemPlace}
theorem open_pairs (h : DataW.Trod enc Try.prog W base spare held 22 (.slice a len cap) d ps) : ∃ l, Row W 2 PairK PairD a len cap l := by
  obtain ⟨fuel, hf⟩ := h
  rcases open_slice_fields Try.underlying22 Try.underlying41 (by kernel_rfl) (by kernel_rfl) hf with ⟨hcs, _⟩ | ⟨x, l, c, m, D, Pl, hcs, hb, hl, hm, hmm, hx, hi⟩
  · simp [Value.cells] at hcs
    obtain ⟨rfl, rfl, rfl⟩ := hcs
    exact ⟨[], rfl, Nat.le_refl _, by simp [maxLen], fun h => absurd h (Nat.lt_irrefl _), by simp⟩
  · simp [Value.cells] at hcs
    obtain ⟨rfl, rfl, rfl⟩ := hcs
    have hml : len ≤ m := by
      rw [hmm]
      split
      · exact hl
      · exact Nat.le_refl _
    obtain ⟨f, hf⟩ := pick ((0, 0) : Int × Int) (m := len) (Q := fun i p => (W.cell? (x.add (i * 2)) = some (.int .i64 p.1) ∧ W.cell? (x.add (i * 2 + 1)) = some (.int .i32 p.2)) ∧ PairD p) (fun i hil => by
      obtain ⟨ys, n, _, _, _, hq⟩ := hi i (by omega)
      obtain ⟨v0, y0, c0, _, t0⟩ := hq 0 _ rfl
      obtain ⟨v1, y1, c1, _, t1⟩ := hq 1 _ rfl
      obtain ⟨n0, e0, _, w0⟩ := DataW.trod_int Try.underlying3 t0
      obtain ⟨n1, e1, _, w1⟩ := DataW.trod_int Try.underlying21 t1
      obtain rfl : v0 = _ := by simpa using e0
      obtain rfl : v1 = _ := by simpa using e1
      exact ⟨(n0, n1), ⟨c0, c1⟩, w0, w1⟩)
    refine ⟨(List.range len).map f, by simp, hl, hm, fun _ => ⟨x, rfl, fun i p hp j v hv => ?_⟩, fun p hp => ?_⟩
    · obtain ⟨hil, rfl⟩ : i < len ∧ p = f i := by
        rw [List.getElem?_map] at hp
        rcases Nat.lt_or_ge i len with h | h
        · rw [List.getElem?_range h] at hp
          exact ⟨h, by simpa using hp.symm⟩
        · rw [List.getElem?_eq_none (by simpa using h)] at hp
          cases hp
      obtain ⟨⟨h0, h1⟩, _⟩ := hf i hil
      match j, hv with
      | 0, hv => cases hv; exact h0
      | 1, hv => cases hv; exact h1
      | j + 2, hv => simp [PairK] at hv
    · obtain ⟨i, hi', rfl⟩ := List.mem_map.1 hp
      exact (hf i (by simpa using hi')).2
theorem sized_pairs {ts : List TypeId} {ds : List (DataW H)} {j : Nat} (hsz : (DataW.weightsEach Try.prog ts ds).all (· ≤ reachBytes) = true) (ht : ts[j]? = some 22) (hd : ds[j]? = some d) (h : DataW.Trod enc Try.prog W base spare held 22 (.slice a len cap) d ps) : len * 16 ≤ 140737488351232 := by
  obtain ⟨fuel, hf⟩ := h
  rcases open_slice_fields Try.underlying22 Try.underlying41 (by kernel_rfl) (by kernel_rfl) hf with ⟨hcs, _⟩ | ⟨x, l, c, m, D, Pl, hcs, hb, hl, hm, hmm, hx, hi⟩
  · simp [Value.cells] at hcs
    obtain ⟨rfl, rfl, rfl⟩ := hcs
    simp
  · simp [Value.cells] at hcs
    obtain ⟨rfl, rfl, rfl⟩ := hcs
    obtain ⟨hx, _⟩ := Prod.mk.inj hx
    subst hx
    have z := sized_slice hsz ht hd Try.underlying22
    have hB : Try.prog.bytesOf 41 = 16 := by kernel_rfl
    rw [hB] at z
    have h1 : ((List.range len).map D).length = len := by simp
    rw [h1] at z
    refine Nat.le_trans (Nat.mul_le_mul_right _ (Nat.le_add_right len _)) z
end Go.Proofs.Ytnapldildjnchaa.Rp
