/- Flow: bytes.Clone of any row of bytes, by the shelf's contract; flow.store.part. -/
import Derived.Test.YtadhfojgifhjcaaShelf
import Derived.Test.YtadhfojgifhjcaaPScriptDigitsx0
import Derived.Lib.Hide
import Derived.Outline
namespace Go.Proofs.Ytadhfojgifhjcaa.Fl
open Go.RowKit Go.Proofs.YtadhfojgifhjcaaW.PrintWords Go.Proofs.YtadhfojgifhjcaaW.PrintLast Go.Proofs.YtadhfojgifhjcaaW.PrintMore
set_option linter.unusedVariables false
/-- A call that returns a row of bytes of its own. -/
def BytesEnd (w : World) (l : List Int) (e : Ending) (w' : World) : Prop := ∃ v, e = .returned v ∧ w'.ownsRow w.heap.size 5 1 v l.length (nums .u8 l) ∧ Below w.heap.size w w'
theorem cloneC (A : Option Addr) (c : Nat) (l : List Int) (w : World) (hC : Kd.C (Kd.int .u8) w A l.length l) (hn : l.length ≤ 140737488355328) :
    Calls Try.prog 41 #[.slice A l.length c] w (BytesEnd w l) := by
  rcases A with _ | ad
  · have h0 : l.length = 0 := by
      rcases Nat.eq_zero_or_pos l.length with h | h
      · exact h
      · obtain ⟨ad, e, _⟩ := Kd.at_int hC 0 (by omega) (by omega)
        cases e
    obtain rfl : l = [] := List.eq_nil_of_length_eq_zero h0
    refine (Try.bytes_Clone_nil 0 c w).mono ?_
    rintro e w' ⟨rfl, rfl⟩
    exact ⟨_, rfl, own_nil _ _ _ _, Below.refl _ _⟩
  · refine (Try.bytes_Clone_at ad l.length c l w rfl hn fun i hi => ?_).mono ?_
    · obtain ⟨ad', e, h⟩ := Kd.at_int hC (i : Int) (by omega) (by omega)
      cases e
      rw [Int.toNat_natCast] at h
      exact h
    · rintro e w' ⟨v, rfl, ho, _, hb⟩
      exact ⟨v, rfl, ho, hb⟩
set_option maxHeartbeats 2000000 in
set_option maxRecDepth 100000 in
theorem partC (p : Addr) (A : Option Addr) (c : Nat) (l : List Int) (i j : Nat) (w : World) (hp : w.cell? p = some (.slice A l.length c)) (hC : Kd.C (Kd.int .u8) w A l.length l) (hc : l.length ≤ c) (hc2 : c ≤ 9223372036854775807) (hij : i ≤ j) (hj : j ≤ l.length) (hn : l.length ≤ 140737488355328) :
    Calls Try.prog 40 #[.pointer (some p), .int .i64 i, .int .i64 j] w (BytesEnd w ((l.take j).drop i)) := by
  have hl : ((l.take j).drop i).length = j - i := by rw [List.length_drop, List.length_take]; omega
  have hD := Kd.C_drop (m := i) (c := c) (Kd.C_take (m := j) hC hj) (by rw [List.length_take]; omega) (by rw [List.length_take]; omega)
  rw [hl] at hD
  have HD := Lib.hid hD
  clear hD
  have HL := Lib.hid hl
  clear hl
  have HC := Lib.hid hC
  clear hC
  have i0 : (0 : Int) ≤ (i : Int) := by omega
  have i1 : (i : Int) ≤ (j : Int) := by omega
  have i2 : (j : Int) ≤ (c : Int) := by omega
  go_enter Try.func40, Try.ntmps40
  go_wp2_with fail
  all_goals
    have hD := HD.out
    first
    | rw [if_pos (by omega)] at hD
    | rw [if_neg (by omega), show i * (Kd.int .u8).sz = i from Nat.mul_one i] at hD
    rw [← HL.out] at hD
    have hk := fun c => cloneC _ c ((l.take j).drop i) w hD (by rw [HL.out]; omega)
    rw [HL.out] at hk
    refine Calls.mono (hk _) ?_
    rintro e w1 ⟨v, rfl, ho, hb⟩
    have HO := Lib.hid ho
    have HB := Lib.hid hb
    clear ho hb hk hD
    go_wp2_with fail
    go_ret
    exact ⟨_, rfl, HO.out, HB.out⟩
end Go.Proofs.Ytadhfojgifhjcaa.Fl
