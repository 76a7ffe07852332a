/- flow.NewIn, walked. -/
import Derived.Test.YtadhfojgifhjcaaFlK
namespace Go.Proofs.Ytadhfojgifhjcaa.Fl
open Go.RowKit Go.Proofs.YtadhfojgifhjcaaW.PrintWords Go.Proofs.YtadhfojgifhjcaaW.PrintLast Go.Proofs.YtadhfojgifhjcaaW.PrintMore
set_option linter.unusedVariables false
set_option maxHeartbeats 2000000 in
set_option maxRecDepth 100000 in
theorem newInC (A : Option Addr) (c : Nat) (l : List Int) (w : World) (hC : Kd.C (Kd.int .u8) w A l.length l) (hn : l.length ≤ 140737488355328) :
    Calls Try.prog 20 #[.slice A l.length c] w fun e w' => ∃ g A' c', e = .returned (.pointer (some ⟨g, 0, none⟩)) ∧ w'.heap[g]? = some (.cells #[.slice A' l.length c', .int .i64 0] 70 (0, 0)) ∧ w'.ownsRow w.heap.size 5 1 (.slice A' l.length c') l.length (nums .u8 l) ∧ w.heap.size ≤ g ∧ Below w.heap.size w w' := by
  have HC := Lib.hid hC
  clear hC
  go_enter Try.func20, Try.ntmps20
  go_wp2_with fail
  refine (cloneC A c l _ HC.out hn).mono ?_
  rintro e w1 ⟨v, rfl, ho, hb⟩
  obtain ⟨A', c', rfl, _⟩ := own_reads ho
  have HO := Lib.hid ho
  have HB := Lib.hid hb
  clear ho hb
  go_wp2_with fail
  go_ret
  exact ⟨w1.heap.size, A', c', rfl, Array.getElem?_push_size, HO.out.alloc _, HB.out.size, HB.out.alloc HB.out.size _⟩
end Go.Proofs.Ytadhfojgifhjcaa.Fl
