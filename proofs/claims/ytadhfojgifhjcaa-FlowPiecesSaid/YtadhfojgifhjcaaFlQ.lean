/- Both inputs side by side: what each call leaves of them. -/
import Derived.Test.YtadhfojgifhjcaaFlP
import Derived.Test.YtadhfojgifhjcaaFlO
namespace Go.Proofs.Ytadhfojgifhjcaa.Fl
open Go.RowKit Go.Proofs.YtadhfojgifhjcaaW.PrintWords Go.Proofs.YtadhfojgifhjcaaW.PrintLast Go.Proofs.YtadhfojgifhjcaaW.PrintMore
set_option linter.unusedVariables false
/-- The input of the program, x taken; its blocks from b on. -/
def InOne (w wr : World) (b g : Nat) (l : List Int) (x : Nat) : Prop :=
  ∃ A c, wr.heap[g]? = some (.cells #[.slice A l.length c, .int .i64 x] 70 (0, 0)) ∧ wr.ownsRow b 5 1 (.slice A l.length c) l.length (nums .u8 l) ∧ b ≤ g ∧ x ≤ l.length ∧ l.length ≤ 140737488355328 ∧ w.heap.size ≤ b ∧ Below w.heap.size w wr
/-- The reference's input, x taken. -/
def InTwo (wr : World) (b g : Nat) (l : List Int) (x : Nat) (B : Option Addr) (d : Nat) : Prop :=
  ∃ v, wr.heap[g]? = some (.cells #[.slice B (l.length - x) d, .int .i64 x] 43 (0, 0)) ∧ wr.ownsRow b 5 1 v l.length (nums .u8 l) ∧ (∀ W : World, W.ownsRow b 5 1 v l.length (nums .u8 l) → Kd.C (Kd.int .u8) W B (l.length - x) (l.drop x)) ∧ l.length - x ≤ d ∧ d ≤ 9223372036854775807 ∧ b ≤ g ∧ x ≤ l.length
theorem own_low {w : World} {b e n k : Nat} {v : Value} {xs : List Value} (h : w.ownsRow b e 1 v n xs) (hk : k < b) (j : Nat) (u : Value) : (w.setCell ⟨k, j, none⟩ u).ownsRow b e 1 v n xs :=
  own_move h fun q hq => Below.heap_setCell w ⟨k, j, none⟩ u q (by have := own_base h q hq; show q ≠ k; omega)
section
variable {w wr w' : World} {b g g2 : Nat} {l : List Int} {x : Nat} {B : Option Addr} {d : Nat}
theorem InOne.below (h : InOne w wr b g l x) (hb : Below wr.heap.size wr w') : InOne w w' b g l x := by
  obtain ⟨A, c, h1, h2, h3, h4, h5, h6, h7⟩ := h
  exact ⟨A, c, blk_below h1 hb, pw_own_below h2 hb, h3, h4, h5, h6, below_step h7 hb⟩
theorem InTwo.below (h : InTwo wr b g l x B d) (hb : Below wr.heap.size wr w') : InTwo w' b g l x B d := by
  obtain ⟨v, h1, h2, h3, h4, h5, h6, h7⟩ := h
  exact ⟨v, blk_below h1 hb, pw_own_below h2 hb, h3, h4, h5, h6, h7⟩
theorem InOne.drewN (h : InOne w wr b g l x) (m : Nat) : InOne w (wr.drewN m) b g l x := by
  obtain ⟨A, c, h1, h2, h3, h4, h5, h6, h7⟩ := h
  exact ⟨A, c, h1, h2, h3, h4, h5, h6, pw_below_drewN h7 m⟩
theorem InTwo.drewN (h : InTwo wr b g l x B d) (m : Nat) : InTwo (wr.drewN m) b g l x B d := h
theorem InOne.drew (h : InOne w wr b g l x) : InOne w wr.drew b g l x := by
  obtain ⟨A, c, h1, h2, h3, h4, h5, h6, h7⟩ := h
  exact ⟨A, c, h1, h2, h3, h4, h5, h6, below_drew h7⟩
theorem InTwo.drew (h : InTwo wr b g l x B d) : InTwo wr.drew b g l x B d := h
theorem InOne.bel (h : InOne w wr b g l x) : Below w.heap.size w wr := by
  obtain ⟨A, c, h1, h2, h3, h4, h5, h6, h7⟩ := h
  exact h7
/-- A store below b. -/
theorem InOne.low (h : InOne w wr b g l x) {k : Nat} (hk : k < b) (hk2 : w.heap.size ≤ k) (j : Nat) (u : Value) : InOne w (wr.setCell ⟨k, j, none⟩ u) b g l x := by
  obtain ⟨A, c, h1, h2, h3, h4, h5, h6, h7⟩ := h
  exact ⟨A, c, (Below.heap_setCell wr ⟨k, j, none⟩ u g (by show g ≠ k; omega)).trans h1, own_low h2 hk j u, h3, h4, h5, h6, h7.setCell hk2 _⟩
theorem InTwo.low (h : InTwo wr b g l x B d) {k : Nat} (hk : k < b) (j : Nat) (u : Value) : InTwo (wr.setCell ⟨k, j, none⟩ u) b g l x B d := by
  obtain ⟨v, h1, h2, h3, h4, h5, h6, h7⟩ := h
  exact ⟨v, (Below.heap_setCell wr ⟨k, j, none⟩ u g (by show g ≠ k; omega)).trans h1, own_low h2 hk j u, h3, h4, h5, h6, h7⟩
theorem InTwo.cells (h : InTwo wr b g l x B d) : wr.cell? ⟨g, 0, none⟩ = some (.slice B (l.length - x) d) ∧ wr.cell? ⟨g, 1, none⟩ = some (.int .i64 x) ∧ Kd.C (Kd.int .u8) wr B (l.length - x) (l.drop x) := by
  obtain ⟨v, h1, h2, h3, h4, h5, h6, h7⟩ := h
  exact ⟨blk_cell h1 0, blk_cell h1 1, h3 wr h2⟩
/-- A store into the block of the one: the other stays. -/
theorem InTwo.far (h : InTwo wr b g2 l x B d) {cs : Array Value} (hb : wr.heap[g]? = some (.cells cs 70 (0, 0))) (j : Nat) (u : Value) : InTwo (wr.setCell ⟨g, j, none⟩ u) b g2 l x B d := by
  obtain ⟨v, h1, h2, h3, h4, h5, h6, h7⟩ := h
  refine ⟨v, (Below.heap_setCell wr ⟨g, j, none⟩ u g2 ?_).trans h1, own_far h2 hb (by decide) j u, h3, h4, h5, h6, h7⟩
  show g2 ≠ g
  rintro rfl
  rw [h1] at hb
  injection hb with hb
  injection hb with _ hb
  exact absurd hb (by decide)
theorem InOne.far (h : InOne w wr b g l x) {cs : Array Value} (hb : wr.heap[g2]? = some (.cells cs 43 (0, 0))) (hw : w.heap.size ≤ g2) (j : Nat) (u : Value) : InOne w (wr.setCell ⟨g2, j, none⟩ u) b g l x := by
  obtain ⟨A, c, h1, h2, h3, h4, h5, h6, h7⟩ := h
  refine ⟨A, c, (Below.heap_setCell wr ⟨g2, j, none⟩ u g ?_).trans h1, own_far h2 hb (by decide) j u, h3, h4, h5, h6, h7.setCell hw _⟩
  show g ≠ g2
  rintro rfl
  rw [h1] at hb
  injection hb with hb
  injection hb with _ hb
  exact absurd hb (by decide)
theorem peek_in (h : InOne w wr b g l x) (k : Int) (j : Nat) (hj : (j : Int) = min (max k 0) ((l.length : Int) - (x : Int))) :
    Calls Try.prog 21 #[.pointer (some ⟨g, 0, none⟩), .int .i64 k] wr (BytesEnd wr ((l.drop x).take j)) := by
  obtain ⟨A, c, h1, h2, h3, h4, h5, h6, h7⟩ := h
  rw [show (l.drop x).take j = (l.take (x + j)).drop x by rw [List.drop_take]; congr 1; omega]
  exact peekC g A c l x j k wr (blk_cell h1 0) (blk_cell h1 1) (Kd.C_of_reads (d := (0 : Int)) (own_reads' h2)) (own_cap h2) (own_capm h2) h4 h5 hj
theorem rpeek_in (h : InTwo wr b g l x B d) (hl : l.length ≤ 140737488355328) (k : Int) (j : Nat) (hj : (j : Int) = min (max k 0) ((l.length : Int) - (x : Int))) :
    Calls Try.prog 22 #[.pointer (some ⟨g, 0, none⟩), .int .i64 k] wr (BytesEnd wr ((l.drop x).take j)) := by
  obtain ⟨v, h1, h2, h3, h4, h5, h6, h7⟩ := h
  have hd : (l.drop x).length = l.length - x := List.length_drop
  refine rpeekC g B d (l.drop x) j k wr ?_ ?_ ?_ ?_ ?_
  · rw [hd]; exact blk_cell h1 0
  · rw [hd]; exact h3 wr h2
  · rw [hd]; exact h4
  · rw [hd]; omega
  · rw [hd, hj]; omega
theorem left_in (h : InOne w wr b g l x) : Calls Try.prog 25 #[.pointer (some ⟨g, 0, none⟩)] wr fun e w' => e = .returned (.int .i64 ((l.length - x : Nat) : Int)) ∧ ∃ m, w' = wr.drewN m := by
  obtain ⟨A, c, h1, h2, h3, h4, h5, h6, h7⟩ := h
  refine (leftC g A l.length c x wr (blk_cell h1 0) (blk_cell h1 1) h4 h5).mono ?_
  rintro e w' ⟨rfl, m, rfl⟩
  exact ⟨by rw [show ((l.length - x : Nat) : Int) = (l.length : Int) - (x : Int) by omega], m, rfl⟩
theorem at_in (h : InOne w wr b g l x) : Calls Try.prog 26 #[.pointer (some ⟨g, 0, none⟩)] wr fun e w' => e = .returned (.int .i64 (x : Int)) ∧ ∃ m, w' = wr.drewN m := by
  obtain ⟨A, c, h1, h2, h3, h4, h5, h6, h7⟩ := h
  refine (atC g x wr (blk_cell h1 1)).mono ?_
  rintro e w' ⟨rfl, m, rfl⟩
  exact ⟨rfl, m, rfl⟩
theorem skip_in_no (h : InOne w wr b g l x) (k : Int) (hk : k < 0 ∨ (l.length : Int) - (x : Int) < k) :
    Calls Try.prog 23 #[.pointer (some ⟨g, 0, none⟩), .int .i64 k] wr fun e w' => e = .returned (.bool false) ∧ ∃ m, w' = wr.drewN m := by
  obtain ⟨A, c, h1, h2, h3, h4, h5, h6, h7⟩ := h
  by_cases hn : k < 0
  · refine (skipC_neg g k wr hn).mono ?_
    rintro e w' ⟨rfl, m, rfl⟩
    exact ⟨rfl, m, rfl⟩
  · refine (skipC_big g A l.length c x k wr (blk_cell h1 0) (blk_cell h1 1) h4 h5 (by omega) (by omega)).mono ?_
    rintro e w' ⟨rfl, m, rfl⟩
    exact ⟨rfl, m, rfl⟩
theorem rskip_in_no (h : InTwo wr b g l x B d) (k : Int) (hk : k < 0 ∨ (l.length : Int) - (x : Int) < k) :
    Calls Try.prog 24 #[.pointer (some ⟨g, 0, none⟩), .int .i64 k] wr fun e w' => e = .returned (.bool false) ∧ ∃ m, w' = wr.drewN m := by
  obtain ⟨v, h1, h2, h3, h4, h5, h6, h7⟩ := h
  by_cases hn : k < 0
  · refine (rskip_neg g k wr hn).mono ?_
    rintro e w' ⟨rfl, m, rfl⟩
    exact ⟨rfl, m, rfl⟩
  · refine (rskip_big g B (l.length - x) d k wr (blk_cell h1 0) (by omega) (by omega)).mono ?_
    rintro e w' ⟨rfl, m, rfl⟩
    exact ⟨rfl, m, rfl⟩
theorem skip_in (h : InOne w wr b g l x) (h' : InTwo wr b g2 l x B d) (k : Nat) (hk : x + k ≤ l.length) :
    Calls Try.prog 23 #[.pointer (some ⟨g, 0, none⟩), .int .i64 k] wr fun e w' => e = .returned (.bool true) ∧ InOne w w' b g l (x + k) ∧ InTwo w' b g2 l x B d := by
  obtain ⟨A, c, h1, h2, h3, h4, h5, h6, h7⟩ := h
  refine (skipC_yes g A l.length c x k wr (blk_cell h1 0) (blk_cell h1 1) h4 h5 (by omega) (by omega) (blk_frozen h1 1)).mono ?_
  rintro e w' ⟨rfl, m, rfl⟩
  refine ⟨rfl, ⟨A, c, ?_, own_far (show (wr.drewN m).ownsRow b 5 1 _ _ _ from h2) (show (wr.drewN m).heap[g]? = _ from h1) (by decide) _ _, h3, hk, h5, h6, (pw_below_drewN h7 m).setCell (by show w.heap.size ≤ g; omega) _⟩, InTwo.far (show InTwo (wr.drewN m) b g2 l x B d from h') (show (wr.drewN m).heap[g]? = _ from h1) _ _⟩
  have := blk_set (show (wr.drewN m).heap[g]? = _ from h1) 1 (.int .i64 ((x : Int) + (k : Int)))
  rw [show ((x + k : Nat) : Int) = (x : Int) + (k : Int) by omega]
  exact this
theorem rskip_in {y : Nat} (h : InOne w wr b g l y) (h' : InTwo wr b g2 l x B d) (k : Nat) (hk : x + k ≤ l.length) :
    Calls Try.prog 24 #[.pointer (some ⟨g2, 0, none⟩), .int .i64 k] wr fun e w' => ∃ B' d', e = .returned (.bool true) ∧ InOne w w' b g l y ∧ InTwo w' b g2 l (x + k) B' d' := by
  have h5 : l.length ≤ 140737488355328 := by
    obtain ⟨A, c, k1, k2, k3, k4, k5, k6, k7⟩ := h
    exact k5
  have hw : w.heap.size ≤ g2 := by
    obtain ⟨A, c, k1, k2, k3, k4, k5, k6, k7⟩ := h
    obtain ⟨v, h1, h2, h3, h4, h5, h6, h7⟩ := h'
    omega
  obtain ⟨v, h1, h2, h3, h4, h8, h6, h7⟩ := h'
  have e1 : l.length - x - k = l.length - (x + k) := by omega
  have e2 : ((x + k : Nat) : Int) = (x : Int) + (k : Int) := by omega
  by_cases hne : d = k
  · subst hne
    have hx : l.length - x = d := by omega
    have h1' := h1
    rw [hx] at h1'
    refine (rskip_end g2 B d x wr (blk_cell h1' 0) (blk_cell h1' 1) (by omega) (by omega) (blk_frozen h1 1) (blk_frozen h1 0)).mono ?_
    rintro e w' ⟨rfl, rfl⟩
    have t1 := blk_set h1 0 (.slice B 0 0)
    have t2 := blk_set t1 1 (.int .i64 ((x : Int) + (d : Int)))
    refine ⟨B, 0, rfl, (h.far h1 hw _ _).far t1 hw _ _, v, ?_, own_far (own_far h2 h1 (by decide) _ _) t1 (by decide) _ _, fun W hW => ?_, by omega, by omega, h6, hk⟩
    · rw [e2, show l.length - (x + d) = 0 by omega]
      exact t2
    · rw [show l.length - (x + d) = 0 by omega, List.drop_eq_nil_of_le (by omega)]
      exact Kd.C_of_reads (d := (0 : Int)) ⟨rfl, by simp, fun h => absurd h (Nat.lt_irrefl 0)⟩
  · refine (rskip_yes g2 B (l.length - x) d x k wr (blk_cell h1 0) (blk_cell h1 1) (by omega) (by omega) (by omega) h4 (blk_frozen h1 1) (blk_frozen h1 0) hne).mono ?_
    rintro e w' ⟨rfl, rfl⟩
    have t1 := blk_set h1 0 (.slice (B.map fun x => x.add k) (l.length - x - k) (d - k))
    have t2 := blk_set t1 1 (.int .i64 ((x : Int) + (k : Int)))
    refine ⟨B.map fun x => x.add k, d - k, rfl, (h.far h1 hw _ _).far t1 hw _ _, v, ?_, own_far (own_far h2 h1 (by decide) _ _) t1 (by decide) _ _, fun W hW => ?_, by omega, by omega, h6, hk⟩
    · rw [e2, ← e1]
      exact t2
    · have hd : (l.drop x).length = l.length - x := List.length_drop
      have hc3 := h3 W hW
      rw [← hd] at hc3
      have hD := Kd.C_drop (m := k) (c := d) hc3 (by omega) (by omega)
      rw [if_neg hne, List.drop_drop, show k * (Kd.int .u8).sz = k from Nat.mul_one k, List.length_drop] at hD
      exact hD
end
end Go.Proofs.Ytadhfojgifhjcaa.Fl
