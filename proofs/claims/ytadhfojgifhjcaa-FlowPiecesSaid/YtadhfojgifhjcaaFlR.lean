/- The reference's In, walked: Peek, Skip. -/
import Derived.Test.YtadhfojgifhjcaaFlN
namespace Go.Proofs.Ytadhfojgifhjcaa.Fl
open Go.RowKit Go.Proofs.YtadhfojgifhjcaaW.PrintWords Go.Proofs.YtadhfojgifhjcaaW.PrintLast Go.Proofs.YtadhfojgifhjcaaW.PrintMore
set_option linter.unusedVariables false
set_option maxHeartbeats 2000000 in
set_option maxRecDepth 100000 in
theorem rskip_neg (g : Nat) (k : Int) (w : World) (hk : k < 0) :
    Calls Try.prog 24 #[.pointer (some ⟨g, 0, none⟩), .int .i64 k] w fun e w' => e = .returned (.bool false) ∧ Drawn0 w w' := by
  go_enter Try.func24, Try.ntmps24
  go_wp2_with fail
  go_ret
  exact ⟨rfl, Drawn0.refl _⟩
set_option maxHeartbeats 2000000 in
set_option maxRecDepth 100000 in
theorem rskip_big (g : Nat) (A : Option Addr) (n c : Nat) (k : Int) (w : World) (h0 : w.cell? ⟨g, 0, none⟩ = some (.slice A n c)) (hk0 : 0 ≤ k) (hk1 : (n : Int) < k) :
    Calls Try.prog 24 #[.pointer (some ⟨g, 0, none⟩), .int .i64 k] w fun e w' => e = .returned (.bool false) ∧ Drawn0 w w' := by
  go_enter Try.func24, Try.ntmps24
  go_wp2_with fail
  go_ret
  exact ⟨rfl, Drawn0.refl _⟩
set_option maxHeartbeats 2000000 in
set_option maxRecDepth 100000 in
theorem rskip_yes (g : Nat) (A : Option Addr) (n c : Nat) (x : Nat) (k : Nat) (w : World) (h0 : w.cell? ⟨g, 0, none⟩ = some (.slice A n c)) (h1 : w.cell? ⟨g, 1, none⟩ = some (.int .i64 x)) (hk : k ≤ n) (hx : x ≤ 140737488355328) (hn : n ≤ 140737488355328) (hc : n ≤ c) (hf : w.frozen? ⟨g, 1, none⟩ = false) (hf0 : w.frozen? ⟨g, 0, none⟩ = false) (hne : c ≠ k) :
    Calls Try.prog 24 #[.pointer (some ⟨g, 0, none⟩), .int .i64 k] w fun e w' => e = .returned (.bool true) ∧ w' = (w.setCell ⟨g, 0, none⟩ (.slice (A.map fun x => x.add k) (n - k) (c - k))).setCell ⟨g, 1, none⟩ (.int .i64 ((x : Int) + (k : Int))) := by
  have i0 : ¬ ((n : Int) < (k : Int)) := by omega
  have i1 : (k : Int) ≤ (n : Int) := by omega
  have i2 : (n : Int) ≤ (c : Int) := by omega
  go_enter Try.func24, Try.ntmps24
  go_wp2_with fail
  go_ret
  exact ⟨rfl, rfl⟩
end Go.Proofs.Ytadhfojgifhjcaa.Fl
