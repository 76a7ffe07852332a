/- An input and an output side by side: what each call leaves of them. -/
import Derived.Test.YtadhfojgifhjcaaFlQ
import Derived.Test.YtadhfojgifhjcaaFlL
namespace Go.Proofs.Ytadhfojgifhjcaa.Fl
open Go.RowKit Go.Proofs.YtadhfojgifhjcaaW.PrintWords Go.Proofs.YtadhfojgifhjcaaW.PrintLast Go.Proofs.YtadhfojgifhjcaaW.PrintMore
set_option linter.unusedVariables false
/-- The input at gi, x taken; the output at go, room R, with m in it. -/
def Two (w wr : World) (gi go : Nat) (l : List Int) (x : Nat) (R : Int) (m : List Int) : Prop :=
  ∃ A c v2, Buf wr gi 70 w.heap.size (.slice A l.length c) (x : Int) l ∧ Buf wr go 66 w.heap.size v2 R m ∧ (v2.ownBlock = none ∨ v2.ownBlock ≠ (Value.slice A l.length c).ownBlock) ∧ gi ≠ go ∧ w.heap.size ≤ gi ∧ w.heap.size ≤ go ∧ Below w.heap.size w wr ∧ x ≤ l.length ∧ l.length ≤ 140737488355328 ∧ (m.length : Int) ≤ R ∧ R ≤ 1000
section
variable {w wr w' : World} {gi go : Nat} {l : List Int} {x : Nat} {R : Int} {m : List Int}
theorem Two.bel (h : Two w wr gi go l x R m) : Below w.heap.size w wr := by
  obtain ⟨A, c, v2, h1, h2, h3, h4, h5, h6, h7, h8, h9, h10, h11⟩ := h
  exact h7
theorem Two.below (h : Two w wr gi go l x R m) (hb : Below wr.heap.size wr w') : Two w w' gi go l x R m := by
  obtain ⟨A, c, v2, h1, h2, h3, h4, h5, h6, h7, h8, h9, h10, h11⟩ := h
  exact ⟨A, c, v2, h1.below hb, h2.below hb, h3, h4, h5, h6, below_step h7 hb, h8, h9, h10, h11⟩
theorem Two.drewN (h : Two w wr gi go l x R m) (n : Nat) : Two w (wr.drewN n) gi go l x R m := by
  obtain ⟨A, c, v2, h1, h2, h3, h4, h5, h6, h7, h8, h9, h10, h11⟩ := h
  exact ⟨A, c, v2, h1, h2, h3, h4, h5, h6, pw_below_drewN h7 n, h8, h9, h10, h11⟩
theorem Two.drew (h : Two w wr gi go l x R m) : Two w wr.drew gi go l x R m := by
  obtain ⟨A, c, v2, h1, h2, h3, h4, h5, h6, h7, h8, h9, h10, h11⟩ := h
  exact ⟨A, c, v2, h1, h2, h3, h4, h5, h6, below_drew h7, h8, h9, h10, h11⟩
theorem Two.le (h : Two w wr gi go l x R m) : x ≤ l.length ∧ (m.length : Int) ≤ R ∧ R ≤ 1000 := by
  obtain ⟨A, c, v2, h1, h2, h3, h4, h5, h6, h7, h8, h9, h10, h11⟩ := h
  exact ⟨h8, h10, h11⟩
theorem left_t (h : Two w wr gi go l x R m) : Calls Try.prog 25 #[.pointer (some ⟨gi, 0, none⟩)] wr fun e w' => e = .returned (.int .i64 ((l.length : Int) - (x : Int))) ∧ ∃ n, w' = wr.drewN n := by
  obtain ⟨A, c, v2, h1, h2, h3, h4, h5, h6, h7, h8, h9, h10, h11⟩ := h
  refine (leftC gi A l.length c x wr h1.cells.1 h1.cells.2.1 h8 h9).mono ?_
  rintro e w' ⟨rfl, n, rfl⟩
  exact ⟨rfl, n, rfl⟩
theorem at_t (h : Two w wr gi go l x R m) : Calls Try.prog 26 #[.pointer (some ⟨gi, 0, none⟩)] wr fun e w' => e = .returned (.int .i64 (x : Int)) ∧ ∃ n, w' = wr.drewN n := by
  obtain ⟨A, c, v2, h1, h2, h3, h4, h5, h6, h7, h8, h9, h10, h11⟩ := h
  refine (atC gi x wr h1.cells.2.1).mono ?_
  rintro e w' ⟨rfl, n, rfl⟩
  exact ⟨rfl, n, rfl⟩
theorem room_t (h : Two w wr gi go l x R m) : Calls Try.prog 18 #[.pointer (some ⟨go, 0, none⟩)] wr fun e w' => e = .returned (.int .i64 (R - (m.length : Int))) ∧ ∃ n, w' = wr.drewN n := by
  obtain ⟨A, c, v2, h1, h2, h3, h4, h5, h6, h7, h8, h9, h10, h11⟩ := h
  obtain ⟨A2, c2, rfl⟩ := own_slice h2.2
  refine (roomC go A2 m.length c2 R wr h2.cells.1 h2.cells.2.1 h10 (by omega)).mono ?_
  rintro e w' ⟨rfl, n, rfl⟩
  exact ⟨rfl, n, rfl⟩
/-- Bytes of its own, the text that they are in whatever comes behind, and the two as they were. -/
def PartEnd (wr : World) (xs : List Int) (S : World → Prop) (e : Ending) (w' : World) : Prop :=
  ∃ A c, e = .returned (.slice A xs.length c) ∧ (∀ W, Below w'.heap.size w' W → (convert 31 9 (.slice A xs.length c)).run Try.prog W = .ok (.string (strOfNums xs)) W) ∧ S w'
theorem part_end {xs : List Int} {e : Ending} (h : Two w wr gi go l x R m) (hb : BytesEnd wr xs e w') : PartEnd wr xs (fun W => Two w W gi go l x R m) e w' := by
  obtain ⟨v, rfl, ho, hbb⟩ := hb
  obtain ⟨A, c, rfl⟩ := own_slice ho
  exact ⟨A, c, rfl, fun W hW => own_string Try.underlying31 Try.underlying5 Try.underlying9 (pw_own_below ho hW), h.below hbb⟩
theorem peek_t (h : Two w wr gi go l x R m) (n : Int) (j : Nat) (hj : (j : Int) = min (max n 0) ((l.length : Int) - (x : Int))) :
    Calls Try.prog 21 #[.pointer (some ⟨gi, 0, none⟩), .int .i64 n] wr (PartEnd wr ((l.drop x).take j) (fun W => Two w W gi go l x R m)) := by
  have h0 := h
  obtain ⟨A, c, v2, h1, h2, h3, h4, h5, h6, h7, h8, h9, h10, h11⟩ := h
  rw [show (l.drop x).take j = (l.take (x + j)).drop x by rw [List.drop_take]; congr 1; omega]
  exact (peekC gi A c l x j n wr h1.cells.1 h1.cells.2.1 (Kd.C_of_reads (d := (0 : Int)) (own_reads' h1.2)) (own_cap h1.2) (own_capm h1.2) h8 h9 hj).mono fun e w' hb => part_end h0 hb
theorem bytes_t (h : Two w wr gi go l x R m) : Calls Try.prog 19 #[.pointer (some ⟨go, 0, none⟩)] wr (PartEnd wr m (fun W => Two w W gi go l x R m)) := by
  have h0 := h
  obtain ⟨A, c, v2, h1, h2, h3, h4, h5, h6, h7, h8, h9, h10, h11⟩ := h
  exact (bytesC go w.heap.size v2 R m wr h2 (by omega)).mono fun e w' hb => part_end h0 hb
theorem skip_t_no (h : Two w wr gi go l x R m) (n : Int) (hn : n < 0 ∨ (l.length : Int) - (x : Int) < n) :
    Calls Try.prog 23 #[.pointer (some ⟨gi, 0, none⟩), .int .i64 n] wr fun e w' => e = .returned (.bool false) ∧ ∃ n, w' = wr.drewN n := by
  obtain ⟨A, c, v2, h1, h2, h3, h4, h5, h6, h7, h8, h9, h10, h11⟩ := h
  by_cases hz : n < 0
  · refine (skipC_neg gi n wr hz).mono ?_
    rintro e w' ⟨rfl, n, rfl⟩
    exact ⟨rfl, n, rfl⟩
  · refine (skipC_big gi A l.length c x n wr h1.cells.1 h1.cells.2.1 h8 h9 (by omega) (by omega)).mono ?_
    rintro e w' ⟨rfl, n, rfl⟩
    exact ⟨rfl, n, rfl⟩
theorem skip_t (h : Two w wr gi go l x R m) (k : Nat) (hk : x + k ≤ l.length) :
    Calls Try.prog 23 #[.pointer (some ⟨gi, 0, none⟩), .int .i64 k] wr fun e w' => e = .returned (.bool true) ∧ Two w w' gi go l (x + k) R m := by
  obtain ⟨A, c, v2, h1, h2, h3, h4, h5, h6, h7, h8, h9, h10, h11⟩ := h
  refine (skipC_yes gi A l.length c x k wr h1.cells.1 h1.cells.2.1 h8 h9 (by omega) (by omega) h1.cells.2.2.2).mono ?_
  rintro e w' ⟨rfl, n, rfl⟩
  have e2 : ((x + k : Nat) : Int) = (x : Int) + (k : Int) := by omega
  have hb1 : (wr.drewN n).heap[gi]? = some (.cells #[.slice A l.length c, .int .i64 x] 70 (0, 0)) := h1.1
  refine ⟨rfl, A, c, v2, ⟨?_, own_far (show (wr.drewN n).ownsRow _ 5 1 _ _ _ from h1.2) hb1 (by decide) _ _⟩, ⟨(Below.heap_setCell (wr.drewN n) ⟨gi, 1, none⟩ _ go (Ne.symm h4)).trans h2.1, own_far (show (wr.drewN n).ownsRow _ 5 1 _ _ _ from h2.2) hb1 (by decide) _ _⟩, h3, h4, h5, h6, (pw_below_drewN h7 n).setCell (by show w.heap.size ≤ gi; omega) _, hk, h9, h10, h11⟩
  rw [e2]
  exact blk_set hb1 1 (.int .i64 ((x : Int) + (k : Int)))
theorem put_t_no (h : Two w wr gi go l x R m) (s : ByteArray) (hs : s.size ≤ 140737488355328) (hno : R - (m.length : Int) < (s.size : Int)) :
    Calls Try.prog 16 #[.pointer (some ⟨go, 0, none⟩), .string s] wr fun e w' => e = .returned (.bool false) ∧ ∃ n, w' = wr.drewN n := by
  obtain ⟨A, c, v2, h1, h2, h3, h4, h5, h6, h7, h8, h9, h10, h11⟩ := h
  refine (put_no go w.heap.size v2 R m s wr h2 h10 (by omega) hs hno).mono ?_
  rintro e w' ⟨rfl, n, rfl⟩
  exact ⟨rfl, n, rfl⟩
theorem put_t (h : Two w wr gi go l x R m) (s : ByteArray) (zs : List Int) (hzs : zs = m ++ bytesOf s) (hyes : (s.size : Int) ≤ R - (m.length : Int)) :
    Calls Try.prog 16 #[.pointer (some ⟨go, 0, none⟩), .string s] wr fun e w' => e = .returned (.bool true) ∧ Two w w' gi go l x R zs := by
  obtain ⟨A, c, v2, h1, h2, h3, h4, h5, h6, h7, h8, h9, h10, h11⟩ := h
  refine (put_yes go w.heap.size v2 R m s zs hzs wr h2 h7.size h6 (by omega) (by omega) hyes).mono fun e w' hP => ?_
  obtain ⟨he, v1, k1, k2, k3, k4, k5⟩ := put_two h2 h1 (Ne.symm h4) h3 (by decide) (by decide) hP
  refine ⟨he, A, c, v1, k2, k1, k3, h4, h5, h6, h7.trans k5, h8, h9, ?_, h11⟩
  rw [hzs, List.length_append, bytesOf_length]
  omega
/-- A new input and a new output. -/
theorem new_two {w wi : World} {g1 : Nat} {A4 : Option Addr} {c4 : Nat} {l : List Int} (hbi : Below w.heap.size w wi) (R : Int) (hR : 0 ≤ R) (hR1 : R ≤ 1000) (hl : l.length ≤ 140737488355328)
    (hg : wi.heap[g1]? = some (.cells #[.slice A4 l.length c4, .int .i64 0] 70 (0, 0))) (ho : wi.ownsRow w.heap.size 5 1 (.slice A4 l.length c4) l.length (nums .u8 l)) (hlt : w.heap.size ≤ g1) :
    Two w (wi.alloc (.cells #[.slice none 0 0, .int .i64 R] 66)) g1 wi.heap.size l 0 R [] := by
  have hlt1 : g1 < wi.heap.size := (Array.getElem?_eq_some_iff.1 hg).1
  have hal : Below wi.heap.size wi (wi.alloc (.cells #[.slice none 0 0, .int .i64 R] 66)) := below_alloc (Below.refl _ _) _
  refine ⟨A4, c4, .slice none 0 0, ⟨blk_below hg hal, pw_own_below ho hal⟩, ⟨heap_alloc_new _ _, own_nil _ _ _ _⟩, .inl rfl, by omega, hlt, hbi.size, below_step hbi hal, Nat.zero_le _, hl, by simpa using hR, hR1⟩
end
end Go.Proofs.Ytadhfojgifhjcaa.Fl
