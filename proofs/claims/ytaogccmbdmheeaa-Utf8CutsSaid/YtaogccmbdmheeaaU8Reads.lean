/- Utf8Reads, walked: whether all are units, how far they are, and which scalars, is told as the document says. -/
import Derived.Test.YtaogccmbdmheeaaU8Scan
namespace Go.Proofs.Ytaogccmbdmheeaa.U8
open Go.RowKit Go.Proofs.YtaogccmbdmheeaaW.PrintWords Go.Proofs.YtaogccmbdmheeaaW.PrintLast Go.Proofs.YtaogccmbdmheeaaW.PrintMore
set_option maxRecDepth 100000 in
theorem sameC (A B : Option Addr) (c d : Nat) (l : List Int) (w : World) (h1 : ReadsInt w .i32 A l.length l) (h2 : ReadsInt w .i32 B l.length l) :
    Calls Try.prog 18 #[.slice A l.length c, .slice B l.length d] w fun e w' => e = .returned (.bool true) ∧ Below w.heap.size w w' := by
  have hm : l.length ≤ 9223372036854775807 := h1.2.1
  have H1 := Lib.hid h1
  have H2 := Lib.hid h2
  clear h1 h2
  have hne : ((l.length : Int) != (l.length : Int)) = false := by simp
  go_enter Try.func18, Try.ntmps18
  go_wp2_with fail
  clear hne
  go_loopw [5] (fun a wr => ∃ k : Nat, k ≤ l.length ∧ a = .int .i64 (k : Int) ∧ Drawn0 w wr) (fun a _ => l.length - (intOf a).toNat)
  case atStart => exact ⟨0, by omega, rfl, Drawn0.refl _⟩
  case round =>
    obtain ⟨k, hk, rfl, hdr⟩ := hrel
    obtain ⟨⟨m, rfl⟩⟩ := hdr
    by_cases hlt : k < l.length
    · obtain ⟨a1, rfl, c1⟩ := H1.out.at_ (k : Int) (by omega) (by omega)
      obtain ⟨a2, rfl, c2⟩ := H2.out.at_ (k : Int) (by omega) (by omega)
      rw [Int.toNat_natCast] at c1 c2
      obtain ⟨x, hx⟩ : ∃ x, x = rd l (k : Int) := ⟨_, rfl⟩
      rw [← hx] at c1 c2
      clear hx
      have hxx : ((x : Int) != x) = false := by simp
      have i0 : (0 : Int) ≤ (k : Int) := by omega
      have i1 : (k : Int) < (l.length : Int) := by omega
      go_wp2_with fail
      go_quiet (fail)
      go_wp2_with fail
      exact ⟨⟨k + 1, by omega, by go_num, ⟨⟨_, rfl⟩⟩⟩, by simp [intOf]; omega⟩
    · go_wp2_with fail
      go_ret
      exact ⟨rfl, pw_below_drewN (Below.refl _ _) _⟩
set_option maxRecDepth 100000 in
theorem reads_yes (A : Option Addr) (c : Nat) (l : List Int) (w : World) (hC : Kd.C (Kd.int .u8) w A l.length l) (hc : l.length ≤ c) (hb : ∀ x ∈ l, Byte x) (hlen : l.length ≤ 5000) :
    Calls Try.prog 5 #[.slice A l.length c] w fun e w' => e = .returned (.bool true) ∧ Below w.heap.size w w' := by
  have HC := Lib.hid hC
  have Hc := Lib.hid hc
  have Hb := Lib.hid hb
  clear hC hc hb
  obtain ⟨T, hT⟩ : ∃ T, T = scan (l.length + 1) l := ⟨_, rfl⟩
  obtain ⟨U, M, E⟩ := T
  have HT := Lib.hid hT
  clear hT
  by_cases hE : E = 0
  · subst hE
    go_enter Try.func5, Try.ntmps5
    go_wp2_with fail
    refine (refScalarsC A c l _ HC.out Hc.out Hb.out (by omega)).mono ?_
    rw [← HT.out]
    rintro e w1 ⟨v1, rfl, ho1, hb1⟩
    obtain ⟨A1, c1, rfl, hr1⟩ := own_reads ho1
    have HB1 : Hid (Below w.heap.size w w1) := hb1
    have HO1 : Hid (ReadsInt w1 .i32 A1 U.length U) := hr1
    clear hb1 ho1 hr1
    go_wp2_with fail
    refine (validC A c l _ (Kd.C_below HC.out HB1.out) Hc.out Hb.out (by omega)).mono ?_
    rw [← HT.out]
    rintro e w2 ⟨rfl, hb2⟩
    have HB2 : Hid (Below w.heap.size w w2) := on HB1.out hb2
    have HO2 : Hid (ReadsInt w2 .i32 A1 U.length U) := HO1.out.below hb2
    clear hb2 HO1
    go_wp2_with fail
    refine (scalarsC A c l _ (Kd.C_below HC.out HB2.out) Hc.out Hb.out (by omega)).mono ?_
    rw [← HT.out]
    rintro e w3 ⟨v3, us, rfl, hus, ho3, hb3⟩
    rw [if_pos rfl] at hus
    obtain rfl : U = us := hus.symm
    obtain ⟨A3, c3, rfl, hr3⟩ := own_reads ho3
    have HB3 : Hid (Below w.heap.size w w3) := on HB2.out hb3
    have HO3 : Hid (ReadsInt w3 .i32 A1 U.length U) := HO2.out.below hb3
    have HP3 : Hid (ReadsInt w3 .i32 A3 U.length U) := hr3
    clear hb3 ho3 hr3 HO2
    go_wp2_with fail
    refine (sameC A3 A1 c3 c1 U _ HP3.out HO3.out).mono ?_
    rintro e w4 ⟨rfl, hb4⟩
    have HB4 : Hid (Below w.heap.size w w4) := on HB3.out hb4
    clear hb4
    go_wp2_with fail
    go_ret
    exact ⟨rfl, HB4.out⟩
  · have he0 : ((E : Int) == 0) = false := beq_eq_false_iff_ne.2 hE
    have he1 : ((E : Int) != 0) = true := by rw [bne_iff_ne]; exact hE
    have HE := Lib.hid hE
    clear hE
    go_enter Try.func5, Try.ntmps5
    go_wp2_with fail
    refine (refScalarsC A c l _ HC.out Hc.out Hb.out (by omega)).mono ?_
    rw [← HT.out]
    rintro e w1 ⟨v1, rfl, ho1, hb1⟩
    obtain ⟨A1, c1, rfl, hr1⟩ := own_reads ho1
    have HB1 : Hid (Below w.heap.size w w1) := hb1
    have HO1 : Hid (ReadsInt w1 .i32 A1 U.length U) := hr1
    clear hb1 ho1 hr1
    go_wp2_with fail
    refine (validC A c l _ (Kd.C_below HC.out HB1.out) Hc.out Hb.out (by omega)).mono ?_
    rw [← HT.out]
    rintro e w2 ⟨rfl, hb2⟩
    have HB2 : Hid (Below w.heap.size w w2) := on HB1.out hb2
    have HO2 : Hid (ReadsInt w2 .i32 A1 U.length U) := HO1.out.below hb2
    clear hb2 HO1
    go_wp2_with fail
    refine (scalarsC A c l _ (Kd.C_below HC.out HB2.out) Hc.out Hb.out (by omega)).mono ?_
    rw [← HT.out]
    rintro e w3 ⟨v3, us, rfl, hus, ho3, hb3⟩
    rw [if_neg HE.out] at hus
    subst hus
    obtain ⟨A3, c3, rfl, hr3⟩ := own_reads ho3
    have HB3 : Hid (Below w.heap.size w w3) := on HB2.out hb3
    have HO3 : Hid (ReadsInt w3 .i32 none ([] : List Int).length []) := ReadsInt.nil _ _
    have HP3 : Hid (ReadsInt w3 .i32 A3 ([] : List Int).length []) := hr3
    clear hb3 ho3 hr3 HO2
    go_wp2_with fail
    refine (sameC A3 none c3 0 [] _ HP3.out HO3.out).mono ?_
    rintro e w4 ⟨rfl, hb4⟩
    have HB4 : Hid (Below w.heap.size w w4) := on HB3.out hb4
    clear hb4
    go_wp2_with fail
    go_ret
    exact ⟨rfl, HB4.out⟩
set_option maxRecDepth 100000 in
theorem reads_walk (w : World) (a : Option Addr) (len cap : Nat) (zs : List Int) (h : (a = none ∧ len = 0 ∧ cap = 0 ∧ zs = []) ∨ ∃ x, a = some x ∧ len ≤ cap ∧ cap ≤ maxLen ∧ zs.length = cap ∧ (∀ i, i < zs.length → w.cell? (x.add i) = some (.int .u8 (zs.getD i 0))) ∧ ∀ n ∈ zs, (Lit.int .u8 n).wf = true)
    (_ : len * 1 ≤ 140737488351232) : Calls Try.prog 5 #[.slice a len cap] w fun e w' => e = .returned (.bool true) ∧ Below w.heap.size w w' := by
  obtain ⟨l, rfl, hC, hc, hb⟩ := open_row h
  by_cases hh : l.length ≤ 5000
  · exact reads_yes a cap l w hC hc hb hh
  · go_enter Try.func5, Try.ntmps5
    go_wp2_with fail
    go_ret
    exact ⟨rfl, Below.refl _ _⟩
end Go.Proofs.Ytaogccmbdmheeaa.U8
