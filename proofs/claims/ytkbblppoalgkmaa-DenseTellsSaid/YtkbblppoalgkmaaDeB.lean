/- A table's methods: Byte, Scalar, Text. -/
import Derived.Test.YtkbblppoalgkmaaDeN
namespace Go.Proofs.Ytkbblppoalgkmaa.De
open Go.RowKit Go.Maps Go.Proofs.YtkbblppoalgkmaaW.PrintWords Go.Proofs.YtkbblppoalgkmaaW.PrintLast Go.Proofs.YtkbblppoalgkmaaW.PrintMore
set_option linter.unusedVariables false
set_option linter.unusedSimpArgs false
theorem newC (first : Int) (s : ByteArray) (w : World) (hs : s.size ≤ 1000000) : Calls Try.prog 7 #[.int .i64 first, .string s] w (NewEnd first s w) := by
  by_cases h : first < 0 ∨ 255 < first
  · exact new_range first s w h
  · exact new_in first s w (by omega) (by omega) hs
/-- The byte of a scalar. -/
def byteF (first : Int) (L : List Int) (u : Int) : Int := if bOk L u = true then first + (idx L u : Int) else 0
theorem byteC {w : World} {base g : Nat} {first : Int} {s : ByteArray} {L : List Int} (h : Tbl w base g first s L) (u : Int) (hu : (Lit.int .i32 u).wf = true) :
    Calls Try.prog 8 #[.pointer (some ⟨g, 0, none⟩), .int .i32 u] w fun e w' => e = .returned (.tuple #[.int .u8 (byteF first L u), .bool (bOk L u)]) ∧ w' = w := by
  obtain ⟨v, mb, D, h1, h2, h3, h4, h5, h6⟩ := h
  have c3 := blk_cell h1 3
  have HM := Lib.hid h3
  have HK : Hid (keyOf Try.prog 21 (.int .i32 u) = some (.int .i32 u)) := Lib.hid (keyOf_int_mk Try.underlying21 hu)
  obtain ⟨b, hb⟩ : ∃ b, b = bOk L u := ⟨_, rfl⟩
  obtain ⟨x, hx⟩ : ∃ x, x = byteF first L u := ⟨_, rfl⟩
  have HH : Hid (Maps.has D (.int .i32 u) = b) := Lib.hid (by rw [(h4.2 u).1, hb])
  have HA : Hid (D.atKey (.int .i32 u) (.lit (.int .u8 0)) = .lit (.int .u8 x)) := Lib.hid (by rw [(h4.2 u).2, hx]; rfl)
  rw [← hb, ← hx]
  clear h1 h2 h3 h4 hb hx hu
  go_enter Try.func8, Try.ntmps8
  go_wp2_with (first
    | (at_lookup; refine wpList_lookup_own_ok_int _ rfl _ _ 42 rfl 21 5 .u8 law21 Try.underlying42 Try.underlying5 (zero5 _) mb L.length D rfl HM.out _ _ rfl HK.out ?_; intro cc hat hwc; have hcx : cc = x := (by rw [HA.out] at hat; injection hat with hat; injection hat with _ hat; exact hat.symm); subst hcx; rw [HH.out]; clear hat hwc)
    | fail)
  go_ret2
  exact ⟨rfl, rfl⟩
/-- The scalar of a byte. -/
def scalOk (first : Int) (L : List Int) (b : Int) : Bool := decide (0 ≤ b - first ∧ b - first < (L.length : Int) ∧ rd L (b - first) ≠ 65533)
def scalF (first : Int) (L : List Int) (b : Int) : Int := if scalOk first L b = true then rd L (b - first) else 0
set_option maxHeartbeats 2000000 in
theorem scalarC {w : World} {base g : Nat} {first : Int} {s : ByteArray} {L : List Int} (h : Tbl w base g first s L) (hf : 0 ≤ first ∧ first ≤ 255) (b : Int) (hb : 0 ≤ b ∧ b < 256) :
    Calls Try.prog 9 #[.pointer (some ⟨g, 0, none⟩), .int .u8 b] w fun e w' => e = .returned (.tuple #[.int .i32 (scalF first L b), .bool (scalOk first L b)]) ∧ w' = w := by
  obtain ⟨v, mb, D, h1, h2, h3, h4, h5, h6⟩ := h
  obtain ⟨A, c, rfl⟩ := own_slice h2
  have c0 := blk_cell h1 0
  have c2 := blk_cell h1 2
  have e1 : wrap64 b = b := by unfold wrap64; omega
  have e2 : wrap64 (b - first) = b - first := by unfold wrap64; omega
  have HC : Hid (Kd.C (Kd.int .i32) w A L.length L) := Lib.hid (Kd.C_of_reads (d := (0 : Int)) (own_reads' h2))
  unfold scalF scalOk
  clear h1 h2 h3 h4
  by_cases k0 : b - first < 0
  · rw [decide_eq_false (show ¬ (0 ≤ b - first ∧ b - first < (L.length : Int) ∧ rd L (b - first) ≠ 65533) by omega)]
    go_enter Try.func9, Try.ntmps9
    go_wp2_with fail
    go_ret2
    exact ⟨rfl, rfl⟩
  · by_cases k1 : b - first ≥ (L.length : Int)
    · rw [decide_eq_false (show ¬ (0 ≤ b - first ∧ b - first < (L.length : Int) ∧ rd L (b - first) ≠ 65533) by omega)]
      go_enter Try.func9, Try.ntmps9
      go_wp2_with fail
      go_ret2
      exact ⟨rfl, rfl⟩
    · obtain ⟨ad, rfl, hcell⟩ := Kd.at_int HC.out (b - first) (by omega) (by omega)
      have i0 : 0 ≤ b - first := by omega
      have i1 : b - first < (L.length : Int) := by omega
      obtain ⟨y, hy⟩ : ∃ y, y = rd L (b - first) := ⟨_, rfl⟩
      rw [← hy] at hcell ⊢
      by_cases k2 : y = 65533
      · rw [decide_eq_false (show ¬ (0 ≤ b - first ∧ b - first < (L.length : Int) ∧ y ≠ 65533) by omega)]
        have k3 : (y == 65533) = true := by rw [k2]; rfl
        clear k2 hy
        go_enter Try.func9, Try.ntmps9
        go_wp2_with fail
        go_ret2
        exact ⟨rfl, rfl⟩
      · rw [decide_eq_true (show 0 ≤ b - first ∧ b - first < (L.length : Int) ∧ y ≠ 65533 from ⟨i0, i1, k2⟩), if_pos rfl]
        have k3 : (y == 65533) = false := by rw [beq_eq_false_iff_ne]; exact k2
        clear hy
        go_enter Try.func9, Try.ntmps9
        go_wp2_with fail
        go_ret2
        exact ⟨rfl, rfl⟩
theorem textC {w : World} {base g : Nat} {first : Int} {s : ByteArray} {L : List Int} (h : Tbl w base g first s L) :
    Calls Try.prog 13 #[.pointer (some ⟨g, 0, none⟩)] w fun e w' => e = .returned (.string s) ∧ w' = w := by
  obtain ⟨v, mb, D, h1, h2, h3, h4, h5, h6⟩ := h
  have c1 := blk_cell h1 1
  clear h1 h2 h3 h4
  go_enter Try.func13, Try.ntmps13
  go_wp2_with fail
  go_ret
  exact ⟨rfl, rfl⟩
end Go.Proofs.Ytkbblppoalgkmaa.De
