/- What the document writes of a unit, as the print has it, is the plain facts' one. No condition. -/
import Derived.Test.YtflmpdfcbdfabaaWc
import Derived.Test.YtflmpdfcbdfabaaPWideSetsx2
namespace Go.Proofs.Ytflmpdfcbdfabaa.Wq
open Go.RowKit Go.Proofs.YtflmpdfcbdfabaaW.PrintWords Go.Proofs.YtflmpdfcbdfabaaW.PrintLast Go.Proofs.YtflmpdfcbdfabaaW.PrintMore
open Go.Proofs.Ytflmpdfcbdfabaa.PWideSets Go.Proofs.Ytflmpdfcbdfabaa.Wd
theorem w64 {x : Int} (h0 : -9223372036854775808 ≤ x) (h1 : x ≤ 9223372036854775807) : wrap64 x = x := by unfold wrap64; omega
theorem w32 {x : Int} (h0 : -2147483648 ≤ x) (h1 : x ≤ 2147483647) : wrap32 x = x := by unfold wrap32; omega
theorem s_unit {x n : Int} (h0 : 0 ≤ x) (h1 : x < 4294967296) (hn : n = 2 ∨ n = 4) (low : Bool) (K : Nat) : dragomanref04_unit.f (K + 5) x n low = some (strOfNums (un low n x)) := by
  have t0 : Int.tmod x 256 = x % 256 := Int.tmod_eq_emod_of_nonneg h0
  have t1 : Int.tmod (x / 2 ^ min 8 IntKind.u32.bits) 256 = x / 256 % 256 := by rw [show (2 : Int) ^ min 8 IntKind.u32.bits = 256 by decide]; exact Int.tmod_eq_emod_of_nonneg (by omega)
  have t2 : Int.tmod (x / 2 ^ min 16 IntKind.u32.bits) 256 = x / 65536 % 256 := by rw [show (2 : Int) ^ min 16 IntKind.u32.bits = 65536 by decide]; exact Int.tmod_eq_emod_of_nonneg (by omega)
  have t3 : Int.tmod (x / 2 ^ min 24 IntKind.u32.bits) 256 = x / 16777216 % 256 := by rw [show (2 : Int) ^ min 24 IntKind.u32.bits = 16777216 by decide]; exact Int.tmod_eq_emod_of_nonneg (by omega)
  rcases hn with rfl | rfl
  · unfold dragomanref04_unit.f
    cases low <;> simp [dragomanref04_unit.l0, w64, shr, un, t0, t1]
  · unfold dragomanref04_unit.f
    cases low <;> simp [dragomanref04_unit.l0, w64, shr, un, t0, t1, t2, t3]
theorem s_split_no {u : Int} (h : u < 65536) : dragomanref01_Split.f u = some (0, 0, false) := by
  unfold dragomanref01_Split.f
  rw [if_pos h]
theorem s_split_yes {u : Int} (h0 : 65536 ≤ u) (h1 : u ≤ 1114111) : dragomanref01_Split.f u = some (55296 + (u - 65536) / 1024, 56320 + (u - 65536) % 1024, true) := by
  unfold dragomanref01_Split.f
  rw [if_neg (by omega), if_neg (by omega), w32 (x := u - 65536) (by omega) (by omega), Int.tdiv_eq_ediv_of_nonneg (by omega), Int.tmod_eq_emod_of_nonneg (by omega), w32 (x := (u - 65536) / 1024) (by omega) (by omega), w32 (x := 55296 + _) (by omega) (by omega), w32 (x := 56320 + _) (by omega) (by omega)]
theorem runitC {x n : Int} (low : Bool) (w : World) (h0 : 0 ≤ x) (h1 : x < 4294967296) (hn : n = 2 ∨ n = 4) : Calls Try.prog 24 #[.int .u32 x, .int .i64 n, .bool low] w fun e w' => e = .returned (.string (strOfNums (un low n x))) ∧ Below w.heap.size w w' :=
  dragomanref04_unit.calls 5 _ _ _ _ w (s_unit h0 h1 hn low 0)
theorem rsplitC_no {u : Int} (w : World) (h : u < 65536) : Calls Try.prog 26 #[.int .i32 u] w fun e w' => e = .returned (.tuple #[.int .i32 0, .int .i32 0, .bool false]) ∧ Drawn0 w w' := dragomanref01_Split.calls _ _ _ _ w (s_split_no h)
theorem rsplitC {u : Int} (w : World) (h0 : 65536 ≤ u) (h1 : u ≤ 1114111) : Calls Try.prog 26 #[.int .i32 u] w fun e w' => e = .returned (.tuple #[.int .i32 (55296 + (u - 65536) / 1024), .int .i32 (56320 + (u - 65536) % 1024), .bool true]) ∧ Drawn0 w w' := dragomanref01_Split.calls _ _ _ _ w (s_split_yes h0 h1)
theorem str_app (a b : List Int) : strOfNums a ++ strOfNums b = strOfNums (a ++ b) := by
  unfold strOfNums
  apply ByteArray.ext
  simp
theorem str_size (a : List Int) : (strOfNums a).size = a.length := by unfold strOfNums ByteArray.size; simp
end Go.Proofs.Ytflmpdfcbdfabaa.Wq
