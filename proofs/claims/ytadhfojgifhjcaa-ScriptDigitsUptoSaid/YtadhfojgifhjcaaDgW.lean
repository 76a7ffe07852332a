/- ScriptDigits, walked: it returns true, of at most 8388608 bytes and a text of at most 16777216. -/
import Derived.Test.YtadhfojgifhjcaaDgR
namespace Go.Proofs.Ytadhfojgifhjcaa.Dg
open Go.RowKit Go.Proofs.YtadhfojgifhjcaaW.PrintWords Go.Proofs.YtadhfojgifhjcaaW.PrintLast Go.Proofs.YtadhfojgifhjcaaW.PrintMore
open Go.Proofs.Ytadhfojgifhjcaa.PScriptDigits
set_option linter.unusedVariables false
def BytesEnds (w : World) (l : List Int) (b : Bool) (e : Ending) (w' : World) : Prop := ∃ v : Value, e = .returned (.tuple #[v, .bool b]) ∧ Kd.R (Kd.int .u8) 5 w' w.heap.size (fun _ => True) v l ∧ Below w.heap.size w w'
theorem undoC (l : List Int) (w : World) (hb : ∀ x ∈ l, 0 ≤ x ∧ x < 256) (hn : l.length ≤ 8388608) : Calls Try.prog 38 #[.string (strOfNums (hexs l))] w (BytesEnds w l true) := by
  obtain ⟨k, h⟩ := undo_f l hb hn
  exact script_Bytes.calls k _ _ _ w h
theorem bothC (s : ByteArray) (hs : s.size ≤ 16777216) : ∃ r b, (∀ w, Calls Try.prog 38 #[.string s] w (BytesEnds w r b)) ∧ (∀ w, Calls Try.prog 39 #[.string s] w (BytesEnds w r b)) := by
  obtain ⟨k, ⟨r, b⟩, h1, h2⟩ := both_f s hs
  exact ⟨r, b, fun w => script_Bytes.calls k _ _ _ w h1, fun w => dragomanref26_Bytes.calls k _ _ _ w h2⟩
set_option maxHeartbeats 2000000 in
set_option maxRecDepth 100000 in
theorem digitsC (A : Option Addr) (c : Nat) (l : List Int) (s : ByteArray) (w : World) (hC : Kd.C (Kd.int .u8) w A l.length l) (hb : ∀ x ∈ l, 0 ≤ x ∧ x < 256) (hlen : l.length ≤ 8388608) (hs : s.size ≤ 16777216) :
    Calls Try.prog 10 #[.slice A l.length c, .string s] w fun e w' => e = .returned (.bool true) ∧ Below w.heap.size w w' := by
  have HC := Lib.hid hC
  have Hb := Lib.hid hb
  clear hC hb
  obtain ⟨r, b, hp, hq⟩ := bothC s hs
  have HP := Lib.hid hp
  have HQ := Lib.hid hq
  clear hp hq
  have HU : Hid (∀ w, Calls Try.prog 38 #[.string (strOfNums (hexs l))] w (BytesEnds w l true)) := Lib.hid (fun w => undoC l w Hb.out hlen)
  go_enter Try.func10, Try.ntmps10
  go_wp2_with fail
  refine (hexC A c l _ HC.out Hb.out (by omega)).mono ?_
  rintro e w1 ⟨rfl, hb1⟩
  have HB1 : Hid (Below w.heap.size w w1) := Lib.hid hb1
  clear hb1
  go_wp2_with fail
  refine (rhexC A c l _ (Kd.C_below HC.out HB1.out) Hb.out hlen).mono ?_
  rintro e w2 ⟨rfl, hb2⟩
  have HB2 : Hid (Below w.heap.size w w2) := Lib.hid (HB1.out.trans (hb2.mono (Below.size HB1.out)))
  clear hb2 HB1
  generalize strOfNums (hexs l) = T at *
  go_wp2_with fail
  refine (HU.out _).mono ?_
  rintro e w3 ⟨v3, rfl, h3, hb3⟩
  obtain ⟨A3, c3, rfl⟩ := Kd.R_slice h3
  have HC3 : Hid (Kd.C (Kd.int .u8) w3 A3 l.length l) := Lib.hid (Kd.R_reads' h3).2.2
  have HB3 : Hid (Below w.heap.size w w3) := Lib.hid (below_step HB2.out hb3)
  clear h3 hb3
  go_wp2_with fail
  refine (HP.out _).mono ?_
  rintro e w4 ⟨v4, rfl, h4, hb4⟩
  obtain ⟨A4, c4, rfl⟩ := Kd.R_slice h4
  have HC4 : Hid (Kd.C (Kd.int .u8) w4 A4 r.length r) := Lib.hid (Kd.R_reads' h4).2.2
  have HB4 : Hid (Below w.heap.size w w4) := Lib.hid (below_step HB3.out hb4)
  replace HC3 := Lib.hid (Kd.C_below HC3.out hb4)
  clear h4 hb4
  go_wp2_with fail
  refine (HQ.out _).mono ?_
  rintro e w5 ⟨v5, rfl, h5, hb5⟩
  obtain ⟨A5, c5, rfl⟩ := Kd.R_slice h5
  have HC5 : Hid (Kd.C (Kd.int .u8) w5 A5 r.length r) := Lib.hid (Kd.R_reads' h5).2.2
  have HB5 : Hid (Below w.heap.size w w5) := Lib.hid (below_step HB4.out hb5)
  replace HC3 := Lib.hid (Kd.C_below HC3.out hb5)
  replace HC4 := Lib.hid (Kd.C_below HC4.out hb5)
  clear h5 hb5
  have HC0 : Hid (Kd.C (Kd.int .u8) w5 A l.length l) := Lib.hid (Kd.C_below HC.out HB5.out)
  have cv0 := Kd.C_string (P := Try.prog) (c := c) Try.underlying31 Try.underlying5 Try.underlying9 HC0.out
  have cv3 := Kd.C_string (P := Try.prog) (c := c3) Try.underlying31 Try.underlying5 Try.underlying9 HC3.out
  have cv4 := Kd.C_string (P := Try.prog) (c := c4) Try.underlying31 Try.underlying5 Try.underlying9 HC4.out
  have cv5 := Kd.C_string (P := Try.prog) (c := c5) Try.underlying31 Try.underlying5 Try.underlying9 HC5.out
  generalize strOfNums l = S at *
  generalize strOfNums r = R at *
  go_wp2_with fail
  go_ret
  exact ⟨rfl, HB5.out⟩
end Go.Proofs.Ytadhfojgifhjcaa.Dg
