/- A table of bytes: what it holds, plainly. -/
import Derived.Test.YtkbblppoalgkmaaDeV
import Derived.Maps.Own
import Derived.Maps.OwnOps
import Derived.Maps.OwnSet
import Derived.Maps.Views
import Derived.Lib.ConvBytes
import Derived.Lib.OthersKept
import Derived.Lib.Hide
import Derived.LoopTactic
import Derived.OwnWalk
namespace Go.Proofs.Ytkbblppoalgkmaa.De
open Go.RowKit Go.Maps Go.Proofs.YtkbblppoalgkmaaW.PrintWords Go.Proofs.YtkbblppoalgkmaaW.PrintLast Go.Proofs.YtkbblppoalgkmaaW.PrintMore
open Go.Proofs.Ytkbblppoalgkmaa.U8 (scan)
set_option linter.unusedVariables false
theorem law21 : Keyed Try.prog 21 := int_keyed Try.underlying21
theorem zero5 (w : World) : (zeroValue 5).run Try.prog w = .ok (.int .u8 0) w := by kernel_rfl
theorem info21 : (Try.prog.info? 21).map (fun i => (i.zero, i.size, i.bytes)) = some (some (.int .i32 0), 1, 4) := by kernel_rfl
/-- The runes of a text from a place on. -/
def runesF (s : ByteArray) : Nat → Nat → List Int
  | 0, _ => []
  | f + 1, pos => if pos < s.size then ((Utf8.decode s pos).1 : Int) :: runesF s f (pos + (Utf8.decode s pos).2) else []
def runes (s : ByteArray) : List Int := runesF s s.size 0
theorem dec_pos (s : ByteArray) (pos : Nat) (h : pos < s.size) : 1 ≤ (Utf8.decode s pos).2 ∧ (Utf8.decode s pos).1 ≤ 2147483647 := by
  refine ⟨?_, decode_le s pos⟩
  by_cases ha : (s[pos]'h).toNat < 128
  · rw [decode_ascii s pos h ha]
    exact Nat.le_refl _
  · exact (decode_high s pos h (by omega)).2
theorem runesF_end (s : ByteArray) (f pos : Nat) (h : ¬ pos < s.size) : runesF s f pos = [] := by
  cases f with
  | zero => rfl
  | succ f => rw [runesF, if_neg h]
theorem runesF_bd (s : ByteArray) : ∀ (f pos : Nat), ∀ u ∈ runesF s f pos, 0 ≤ u ∧ u ≤ 2147483647
  | 0, _, u, h => by cases h
  | f + 1, pos, u, h => by
    rw [runesF] at h
    by_cases hp : pos < s.size
    · rw [if_pos hp] at h
      rcases List.mem_cons.1 h with rfl | h
      · have := (dec_pos s pos hp).2
        omega
      · exact runesF_bd s f _ u h
    · rw [if_neg hp] at h
      cases h
/-- Is a scalar in the table? -/
def bOk (L : List Int) (u : Int) : Bool := decide (u ≠ 65533 ∧ u ∈ L)
def idx (L : List Int) (u : Int) : Nat := L.idxOf u
/-- What the map says. -/
def Spec (first : Int) (L : List Int) (D : DataW Unit) : Prop :=
  IsMap D ∧ ∀ u : Int, Maps.has D (.int .i32 u) = bOk L u ∧ D.atKey (.int .i32 u) (.lit (.int .u8 0)) = .lit (.int .u8 (if bOk L u = true then first + (idx L u : Int) else 0))
theorem spec_nil (first : Int) : Spec first [] (.map []) := by
  refine ⟨⟨[], rfl⟩, fun u => ⟨?_, ?_⟩⟩
  · simp [bOk, Maps.has]
  · simp [bOk, DataW.atKey]
theorem idx_app (L : List Int) (u v : Int) (h : u ∈ L) : idx (L ++ [v]) u = idx L u := by
  unfold idx
  rw [List.idxOf_append, if_pos h]
theorem idx_new (L : List Int) (v : Int) (h : v ∉ L) : idx (L ++ [v]) v = L.length := by
  unfold idx
  rw [List.idxOf_append, if_neg h]
  simp
theorem idx_lt (L : List Int) (u : Int) (h : u ∈ L) : idx L u < L.length := List.idxOf_lt_length_of_mem h
theorem idx_at (L : List Int) (u : Int) (h : u ∈ L) : L[idx L u]'(idx_lt L u h) = u := List.getElem_idxOf (idx_lt L u h)
theorem bOk_app_ne (L : List Int) (u v : Int) (h : u ≠ v) : bOk (L ++ [v]) u = bOk L u := by
  unfold bOk
  simp [h]
theorem spec_keep {first : Int} {L : List Int} {D : DataW Unit} (h : Spec first L D) (u : Int) (hu : u = 65533 ∨ u ∈ L) : Spec first (L ++ [u]) D := by
  refine ⟨h.1, fun x => ?_⟩
  obtain ⟨h1, h2⟩ := h.2 x
  have hb : bOk (L ++ [u]) x = bOk L x := by
    by_cases hx : x = u
    · subst hx
      unfold bOk
      rcases hu with rfl | hu
      · simp
      · simp [hu]
    · exact bOk_app_ne L x u hx
  refine ⟨by rw [hb]; exact h1, ?_⟩
  rw [hb, h2]
  by_cases hx : bOk L x = true
  · rw [if_pos hx, if_pos hx]
    have hm : x ∈ L := by
      unfold bOk at hx
      exact (of_decide_eq_true hx).2
    rw [idx_app L x u hm]
  · rw [if_neg hx, if_neg hx]
theorem spec_put {first : Int} {L : List Int} {D : DataW Unit} (h : Spec first L D) (u : Int) (hw : (Lit.int .i32 u).wf = true) (hu : u ≠ 65533) (hn : u ∉ L) : Spec first (L ++ [u]) (D.put (.int .i32 u) (.lit (.int .u8 (first + (L.length : Int))))) := by
  have hk : WideAt.IsKeyLit (.int .i32 u) := law21.key (keyOf_int_mk Try.underlying21 hw)
  refine ⟨?_, fun x => ?_⟩
  · obtain ⟨es, rfl⟩ := h.1
    exact ⟨_, rfl⟩
  obtain ⟨h1, h2⟩ := h.2 x
  by_cases hx : x = u
  · subst hx
    have hb : bOk (L ++ [x]) x = true := by
      unfold bOk
      simp [hu]
    rw [has_put_same h.1 hk, atKey_put_same h.1 hk, hb, if_pos rfl, idx_new L x hn]
    exact ⟨rfl, rfl⟩
  · have hne : (Lit.int .i32 x) ≠ .int .i32 u := fun he => by
      injection he with _ he
      exact hx he
    rw [has_put_other hne, atKey_put_other hne, bOk_app_ne L x u hx]
    refine ⟨h1, ?_⟩
    rw [h2]
    by_cases hb : bOk L x = true
    · have hm : x ∈ L := by
        unfold bOk at hb
        exact (of_decide_eq_true hb).2
      rw [if_pos hb, if_pos hb, idx_app L x u hm]
    · rw [if_neg hb, if_neg hb]
/-- The table in memory. -/
def Tbl (w : World) (base g : Nat) (first : Int) (s : ByteArray) (L : List Int) : Prop :=
  ∃ (v : Value) (mb : Nat) (D : DataW Unit), w.heap[g]? = some (.cells #[.int .i64 first, .string s, v, .map (some mb)] 44 (0, 0)) ∧ w.ownsRow base 21 1 v L.length (nums .i32 L) ∧ w.ownsMap Try.prog 21 (plainElem Try.prog 5) mb L.length D ∧ Spec first L D ∧ base ≤ g ∧ base ≤ mb
def vb (s : ByteArray) : Bool := (scan (bytesOf s).length (bytesOf s)).2
def errOf (first : Int) (s : ByteArray) : Int := if first < 0 ∨ 255 < first then 2 else if vb s = false then 3 else if 256 < first + ((runes s).length : Int) then 8 else 0
def NewEnd (first : Int) (s : ByteArray) (w : World) (e : Ending) (w' : World) : Prop :=
  Below w.heap.size w w' ∧ ((errOf first s ≠ 0 ∧ e = .returned (.tuple #[.pointer none, .int .i64 (errOf first s)])) ∨ (errOf first s = 0 ∧ ∃ g, e = .returned (.tuple #[.pointer (some ⟨g, 0, none⟩), .int .i64 0]) ∧ Tbl w' w.heap.size g first s (runes s)))
theorem map_keep {w w' : World} {P : Program} {k : TypeId} {R : Value → Option (DataW Unit × List MemPlace)} {b n : Nat} {D : DataW Unit} (h : w.ownsMap P k R b n D) (he : w'.heap[b]? = w.heap[b]?) : w'.ownsMap P k R b n D := by
  obtain ⟨es, c, h1, r⟩ := h
  exact ⟨es, c, he.trans h1, r⟩
theorem map_lt {w : World} {P : Program} {k : TypeId} {R : Value → Option (DataW Unit × List MemPlace)} {b n : Nat} {D : DataW Unit} (h : w.ownsMap P k R b n D) : b < w.heap.size := by
  obtain ⟨es, c, h1, r⟩ := h
  exact (Array.getElem?_eq_some_iff.1 h1).1
theorem map_ne {w : World} {P : Program} {k : TypeId} {R : Value → Option (DataW Unit × List MemPlace)} {b n g : Nat} {D : DataW Unit} {cs : Array Value} {t : TypeId} {fz : Nat × Nat} (h : w.ownsMap P k R b n D) (hg : w.heap[g]? = some (.cells cs t fz)) : b ≠ g := by
  obtain ⟨es, c, h1, r⟩ := h
  rintro rfl
  rw [h1] at hg
  cases hg
theorem Tbl.below {w w' : World} {base g : Nat} {first : Int} {s : ByteArray} {L : List Int} (h : Tbl w base g first s L) (hb : Below w.heap.size w w') : Tbl w' base g first s L := by
  obtain ⟨v, mb, D, h1, h2, h3, h4, h5, h6⟩ := h
  exact ⟨v, mb, D, (hb.block g (Array.getElem?_eq_some_iff.1 h1).1).trans h1, pw_own_below h2 hb, map_keep h3 (hb.block mb (map_lt h3)), h4, h5, h6⟩
theorem bytes_C (W : World) (s : ByteArray) (hs : s.size ≤ 140737488355328) : Kd.C (Kd.int .u8) (Lib.bytesWorld W 5 s) (some ⟨W.heap.size, 0, none⟩) (bytesOf s).length (bytesOf s) := by
  refine Kd.C_of_reads (d := (0 : Int)) ⟨rfl, by rw [bytesOf_length]; omega, fun _ => ⟨_, rfl, fun j hj => ?_⟩⟩
  rw [bytesOf_length] at hj
  rw [add_plain, Lib.bytesWorld_cell W 5 s j hj]
  congr 2
  unfold bytesOf
  simp [List.getD_eq_getElem?_getD]
  rw [Array.getElem?_eq_getElem (by exact hj)]
  rfl
theorem bytes_byte (s : ByteArray) : ∀ x ∈ bytesOf s, U8.Byte x := by
  intro x hx
  unfold bytesOf at hx
  obtain ⟨b, _, rfl⟩ := List.mem_map.1 hx
  have := b.toNat_lt
  exact ⟨by omega, by omega⟩
theorem bytes_below (w : World) (s : ByteArray) : Below w.heap.size w (Lib.bytesWorld w 5 s) :=
  ⟨rfl, rfl, rfl, by rw [Lib.bytesWorld_size]; omega, fun j hj => Lib.bytesWorld_at_old w 5 s j hj⟩
end Go.Proofs.Ytkbblppoalgkmaa.De
