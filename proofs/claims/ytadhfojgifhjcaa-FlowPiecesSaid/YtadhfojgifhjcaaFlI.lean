/- flow.In, walked: Left, At, Peek, Skip over a block of two cells. -/
import Derived.Test.YtadhfojgifhjcaaFlC
namespace Go.Proofs.Ytadhfojgifhjcaa.Fl
open Go.RowKit Go.Proofs.YtadhfojgifhjcaaW.PrintWords Go.Proofs.YtadhfojgifhjcaaW.PrintLast Go.Proofs.YtadhfojgifhjcaaW.PrintMore
set_option linter.unusedVariables false
set_option maxRecDepth 100000 in
theorem atC (g : Nat) (x : Int) (w : World) (h1 : w.cell? ⟨g, 1, none⟩ = some (.int .i64 x)) :
    Calls Try.prog 26 #[.pointer (some ⟨g, 0, none⟩)] w fun e w' => e = .returned (.int .i64 x) ∧ Drawn0 w w' := by
  go_enter Try.func26, Try.ntmps26
  go_wp2_with fail
  go_ret
  exact ⟨rfl, Drawn0.refl _⟩
set_option maxRecDepth 100000 in
theorem leftC (g : Nat) (A : Option Addr) (n c : Nat) (x : Nat) (w : World) (h0 : w.cell? ⟨g, 0, none⟩ = some (.slice A n c)) (h1 : w.cell? ⟨g, 1, none⟩ = some (.int .i64 x)) (hx : x ≤ n) (hn : n ≤ 140737488355328) :
    Calls Try.prog 25 #[.pointer (some ⟨g, 0, none⟩)] w fun e w' => e = .returned (.int .i64 ((n : Int) - (x : Int))) ∧ Drawn0 w w' := by
  go_enter Try.func25, Try.ntmps25
  go_upto_region 1 with fail
  go_quiet (fail)
  go_wp2_with fail
  go_ret
  exact ⟨rfl, ⟨_, rfl⟩⟩
set_option maxRecDepth 100000 in
theorem skipC_neg (g : Nat) (k : Int) (w : World) (hk : k < 0) :
    Calls Try.prog 23 #[.pointer (some ⟨g, 0, none⟩), .int .i64 k] w fun e w' => e = .returned (.bool false) ∧ Drawn0 w w' := by
  go_enter Try.func23, Try.ntmps23
  go_wp2_with fail
  go_ret
  exact ⟨rfl, Drawn0.refl _⟩
set_option maxRecDepth 100000 in
theorem skipC_yes (g : Nat) (A : Option Addr) (n c : Nat) (x : Nat) (k : Int) (w : World) (h0 : w.cell? ⟨g, 0, none⟩ = some (.slice A n c)) (h1 : w.cell? ⟨g, 1, none⟩ = some (.int .i64 x)) (hx : x ≤ n) (hn : n ≤ 140737488355328) (hk0 : 0 ≤ k) (hk1 : k ≤ (n : Int) - (x : Int)) (hf : w.frozen? ⟨g, 1, none⟩ = false) :
    Calls Try.prog 23 #[.pointer (some ⟨g, 0, none⟩), .int .i64 k] w fun e w' => e = .returned (.bool true) ∧ ∃ m, w' = (w.drewN m).setCell ⟨g, 1, none⟩ (.int .i64 ((x : Int) + k)) := by
  go_enter Try.func23, Try.ntmps23
  go_wp2_with fail
  refine (leftC g A n c x _ h0 h1 hx hn).mono ?_
  rintro e w1 ⟨rfl, m, rfl⟩
  have hk1' : decide ((n : Int) - (x : Int) < k) = false := decide_eq_false (by omega)
  have h1' : (w.drewN m).cell? ⟨g, 1, none⟩ = some (.int .i64 x) := h1
  have hf' : (w.drewN m).frozen? ⟨g, 1, none⟩ = false := hf
  go_wp2_with fail
  go_ret
  exact ⟨rfl, _, rfl⟩
set_option maxRecDepth 100000 in
theorem skipC_big (g : Nat) (A : Option Addr) (n c : Nat) (x : Nat) (k : Int) (w : World) (h0 : w.cell? ⟨g, 0, none⟩ = some (.slice A n c)) (h1 : w.cell? ⟨g, 1, none⟩ = some (.int .i64 x)) (hx : x ≤ n) (hn : n ≤ 140737488355328) (hk0 : 0 ≤ k) (hk1 : (n : Int) - (x : Int) < k) :
    Calls Try.prog 23 #[.pointer (some ⟨g, 0, none⟩), .int .i64 k] w fun e w' => e = .returned (.bool false) ∧ Drawn0 w w' := by
  go_enter Try.func23, Try.ntmps23
  go_wp2_with fail
  refine (leftC g A n c x _ h0 h1 hx hn).mono ?_
  rintro e w1 ⟨rfl, m, rfl⟩
  go_wp2_with fail
  go_ret
  exact ⟨rfl, _, rfl⟩
end Go.Proofs.Ytadhfojgifhjcaa.Fl
