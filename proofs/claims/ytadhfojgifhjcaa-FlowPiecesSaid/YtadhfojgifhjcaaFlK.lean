/- flow.In.Peek, walked. -/
import Derived.Test.YtadhfojgifhjcaaFlI
import Derived.Deep.RegionHeld3
namespace Go.Proofs.Ytadhfojgifhjcaa.Fl
open Go.RowKit Go.Proofs.YtadhfojgifhjcaaW.PrintWords Go.Proofs.YtadhfojgifhjcaaW.PrintLast Go.Proofs.YtadhfojgifhjcaaW.PrintMore
attribute [local go_sem] max2_int min2_int max_two min_two
set_option linter.unusedVariables false
set_option maxHeartbeats 2000000 in
set_option maxRecDepth 100000 in
theorem peekC (g : Nat) (A : Option Addr) (c : Nat) (l : List Int) (x j : Nat) (k : Int) (w : World) (h0 : w.cell? ⟨g, 0, none⟩ = some (.slice A l.length c)) (h1 : w.cell? ⟨g, 1, none⟩ = some (.int .i64 x)) (hC : Kd.C (Kd.int .u8) w A l.length l) (hc : l.length ≤ c) (hc2 : c ≤ 9223372036854775807) (hx : x ≤ l.length) (hn : l.length ≤ 140737488355328) (hj : (j : Int) = min (max k 0) ((l.length : Int) - (x : Int))) :
    Calls Try.prog 21 #[.pointer (some ⟨g, 0, none⟩), .int .i64 k] w (BytesEnd w ((l.take (x + j)).drop x)) := by
  have HC := Lib.hid hC
  clear hC
  have hmn : min (max k 0) ((l.length : Int) - (x : Int)) = (j : Int) := hj.symm
  have hw1 : IntKind.i64.wrap ((x : Int) + (j : Int)) = ((x + j : Nat) : Int) := by rw [IntKind.wrap_i64]; omega
  have HX : Hid (Below w.heap.size w w) := Lib.hid (Below.refl _ _)
  have hcase : (k < 0 ∧ (j : Int) = 0) ∨ (¬ k < 0 ∧ ¬ ((l.length : Int) - (x : Int) < k) ∧ (j : Int) = k) ∨ (¬ k < 0 ∧ ((l.length : Int) - (x : Int) < k) ∧ (j : Int) = (l.length : Int) - (x : Int)) := by omega
  rcases hcase with ⟨hk0, hjk⟩ | ⟨hk0, hkl, hjk⟩ | ⟨hk0, hkl, hjk⟩
  all_goals
   clear hw1 hmn hj
   go_enter Try.func21, Try.ntmps21
   go_upto_region 1 with fail
   go_region_held3 (fun w' => w'.cell? ⟨g, 0, none⟩ = some (.slice A l.length c) ∧ w'.cell? ⟨g, 1, none⟩ = some (.int .i64 x)) (first | exact ⟨h0, h1⟩ | exact HS.out) (first | (go_at_call 25; refine (leftC g A l.length c x _ (by exact h0) (by exact h1) hx hn).mono ?_; rintro e wa ⟨rfl, m, rfl⟩) | (go_at_call 40; generalize hq : IntKind.i64.wrap _ = q; obtain rfl : q = ((x + j : Nat) : Int) := (by rw [← hq, IntKind.wrap_i64]; (repeat' split) <;> omega); clear hq; refine (partC ⟨g, 0, none⟩ A c l x (x + j) _ (by exact h0) (Kd.C_drewN HC.out _) hc hc2 (Nat.le_add_right _ _) (by omega) hn).mono ?_; rintro e wb ⟨v, rfl, ho, hb⟩; have HO := Lib.hid ho; have HB := Lib.hid hb; have HS : Hid (wb.cell? ⟨g, 0, none⟩ = some (.slice A l.length c) ∧ wb.cell? ⟨g, 1, none⟩ = some (.int .i64 x)) := Lib.hid ⟨(hb.cell (p := ⟨g, 0, none⟩) (World.block_lt_of_cell? _ _ h0)).trans h0, (hb.cell (p := ⟨g, 1, none⟩) (World.block_lt_of_cell? _ _ h1)).trans h1⟩; clear ho hb) | fail)
   all_goals
     go_wp2_with fail
     go_ret
     exact ⟨_, rfl, HO.out, below_step (pw_below_drewN (Below.refl _ _) _) HB.out⟩
end Go.Proofs.Ytadhfojgifhjcaa.Fl
