/- RangesPacks, walked: the print's walk, at the plain law. -/
import Derived.Test.YtnapldildjnchaaPureRangesPacks
import Derived.Test.YtnapldildjnchaaOpen
import Derived.OpenShut
namespace Go.Proofs.Ytnapldildjnchaa.Rp
open Go.RowKit Go.Proofs.Ytnapldildjnchaa.PRangesPacks Go.Proofs.YtnapldildjnchaaW.PrintWords Go.Proofs.YtnapldildjnchaaW.PrintLast Go.Proofs.YtnapldildjnchaaW.PrintMore
def mk41 (p : Int × Int) : S41 := ⟨p.1, p.2⟩
theorem row41 {w : World} {a : Option Addr} {len cap : Nat} {l : List (Int × Int)} (h : Row w 2 PairK PairD a len cap l) : Kd.C k41 w a (l.map mk41).length (l.map mk41) := by
  obtain ⟨h1, h2, h3, h4, _⟩ := h
  refine ⟨rfl, ?_, fun hp => ?_⟩
  · have : maxLen = 9223372036854775807 := rfl
    rw [List.length_map]
    omega
  · rw [List.length_map] at hp
    obtain ⟨x, rfl, hx⟩ := h4 (by omega)
    refine ⟨x, rfl, fun j p hj => ?_⟩
    rw [List.getElem?_map] at hj
    obtain ⟨q, hq, rfl⟩ := Option.map_eq_some_iff.1 hj
    exact ⟨_, rfl, k41_mk w (mk41 q), fun i u hu => hx j q hq i u hu⟩
theorem packs_walk (w : World) (a : Option Addr) (len cap : Nat) (l : List (Int × Int)) (h : Row w 2 PairK PairD a len cap l) (hl : len * 16 ≤ 140737488351232) :
    Calls Try.prog 3 #[.slice a len cap] w fun e w' => e = .returned (.bool true) ∧ Below w.heap.size w w' := by
  have hC := row41 h
  have e : (l.map mk41).length = len := by rw [List.length_map]; exact h.1
  have := dragomanlaw06_RangesPacks.calls _ a cap (l.map mk41) true w hC (by rw [e]; exact h.2.1) (packs_true (l.map mk41) (fun p hp => by
    obtain ⟨q, hq, rfl⟩ := List.mem_map.1 hp
    obtain ⟨w0, w1⟩ := h.2.2.2.2 q hq
    have b0 := bounds_i64 w0
    have b1 := bounds_i32 w1
    exact ⟨b0, b1⟩) (by rw [e]; omega))
  rw [e] at this
  exact this
end Go.Proofs.Ytnapldildjnchaa.Rp
