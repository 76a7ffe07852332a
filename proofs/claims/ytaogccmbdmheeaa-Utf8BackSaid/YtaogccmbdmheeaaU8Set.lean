/- What utf8.Set comes to of any number, in plain words; its contract in those words. -/
import Derived.Test.YtaogccmbdmheeaaPUtf8Orderx3
import Derived.Test.YtaogccmbdmheeaaU8
import Derived.OpenShut
namespace Go.Proofs.Ytaogccmbdmheeaa.U8
open Go.RowKit Go.Proofs.Ytaogccmbdmheeaa.PUtf8Order Go.Proofs.YtaogccmbdmheeaaW.PrintWords Go.Proofs.YtaogccmbdmheeaaW.PrintLast

theorem scalar_is (u : Int) : ucs_Scalar.f u = some (decide (Scal u)) := by
  unfold ucs_Scalar.f ucs_High.f ucs_Low.f Scal
  by_cases c1 : u ≥ 0
  · rw [if_pos c1]
    by_cases c2 : u ≤ 1114111
    · rw [if_pos c2]
      by_cases c3 : u ≥ 55296
      · rw [if_pos c3]
        simp only [Option.bind_some]
        by_cases c4 : u < 56320
        · simp [c4]
          omega
        · by_cases c5 : u ≤ 57343
          · simp [c1, c2, c3, c4, c5, show u ≥ 56320 by omega]
          · simp [c1, c2, c3, c4, c5, show u ≥ 56320 by omega]
      · rw [if_neg c3]
        simp [show ¬ u ≥ 56320 by omega]
        omega
    · rw [if_neg c2]
      simp
      omega
  · rw [if_neg c1]
    simp
    omega

theorem or_and63 {x : Int} (h0 : 0 ≤ x) (h1 : x < 2097152) : Go.bits .or .u8 128 ((Go.bits .and .i32 x 63) % 256) = 128 + x % 64 := by
  rw [show (63 : Int) = 2 ^ 6 - 1 by rfl, bits_mask .i32 31 (by decide) wraps_i32 6 (by decide) x h0 (by omega), show (x % 2 ^ 6) % 256 = x % 64 by omega, u8_or128 (x % 64) (by omega) (by omega)]
theorem set_more (k : Nat) (u n i : Int) (b : List Int) (hi : 0 < i) (hi2 : i < 10) (hl : i < b.length) (h0 : 0 ≤ u) (h1 : u < 2097152) : utf8_Set.l0 (k + 1) u n b i = utf8_Set.l0 k (u / 64) n (b.set i.toNat (128 + u % 64)) (i - 1) := by
  have e : wrap64 (i - 1) = i - 1 := by unfold wrap64; omega
  rw [utf8_Set.l0, if_pos hi, if_pos (by omega), if_pos hl, or_and63 h0 h1, e]
theorem set_is {u : Int} (h : Scal u) (k : Nat) : utf8_Set.f (k + 5) u = some (0, strOfNums (enc u), 0, 0, 0, 0) := by
  unfold utf8_Set.f
  rw [scalar_is]
  simp only [Option.bind_some, h, decide_true, if_true]
  obtain ⟨h0, h1, h2⟩ := h
  unfold utf8_size.f enc
  by_cases c1 : u < 128
  · rw [if_pos c1, if_pos c1]
    simp only [Option.bind_some, if_true]
    rw [show u % 256 = u by omega]
  · rw [if_neg c1, if_neg c1]
    by_cases c2 : u < 2048
    · rw [if_pos c2, if_pos c2]
      simp only [Option.bind_some]
      rw [if_neg (by omega), if_pos (by omega), if_pos (by decide), show wrap64 (2 - 1) = 1 by decide +kernel, set_more _ _ _ _ _ (by omega) (by omega) (by simp) h0 (by omega), show (1 : Int) - 1 = 0 by rfl,
        utf8_Set.l0, if_neg (by omega), if_pos (by decide +kernel), if_pos (by simp), show shl .u8 255 (wrap64 (8 - 2)) = 192 by decide +kernel, show u / 64 % 256 = u / 64 by omega, u8_or192 _ (by omega) (by omega)]
      rfl
    · rw [if_neg c2, if_neg c2]
      by_cases c3 : u < 65536
      · rw [if_pos c3, if_pos c3]
        simp only [Option.bind_some]
        rw [if_neg (by omega), if_pos (by omega), if_pos (by decide), show wrap64 (3 - 1) = 2 by decide +kernel, set_more _ _ _ _ _ (by omega) (by omega) (by simp) h0 (by omega), show (2 : Int) - 1 = 1 by rfl,
          set_more _ _ _ _ _ (by omega) (by omega) (by simp) (by omega) (by omega), show (1 : Int) - 1 = 0 by rfl,
          utf8_Set.l0, if_neg (by omega), if_pos (by decide +kernel), if_pos (by simp), show shl .u8 255 (wrap64 (8 - 3)) = 224 by decide +kernel, show u / 64 / 64 % 256 = u / 4096 by omega, u8_or224 _ (by omega) (by omega)]
        rfl
      · rw [if_neg c3, if_neg c3]
        simp only [Option.bind_some]
        rw [if_neg (by omega), if_pos (by omega), if_pos (by decide), show wrap64 (4 - 1) = 3 by decide +kernel, set_more _ _ _ _ _ (by omega) (by omega) (by simp) h0 (by omega), show (3 : Int) - 1 = 2 by rfl,
          set_more _ _ _ _ _ (by omega) (by omega) (by simp) (by omega) (by omega), show (2 : Int) - 1 = 1 by rfl,
          set_more _ _ _ _ _ (by omega) (by omega) (by simp) (by omega) (by omega), show (1 : Int) - 1 = 0 by rfl,
          utf8_Set.l0, if_neg (by omega), if_pos (by decide +kernel), if_pos (by simp), show shl .u8 255 (wrap64 (8 - 4)) = 240 by decide +kernel, show u / 64 / 64 / 64 % 256 = u / 262144 by omega, u8_or240 _ (by omega) (by omega), show u / 64 / 64 = u / 4096 by omega]
        rfl
theorem set_not {u : Int} (h : ¬ Scal u) (k : Nat) : utf8_Set.f k u = some (11, ⟨#[]⟩, 0, 0, 0, 0) := by
  unfold utf8_Set.f
  rw [scalar_is]
  simp [h]
/-- What utf8.Set writes of a number: error, bytes. -/
theorem setC (u : Int) (w : World) (h : Scal u) :
    Calls Try.prog 11 #[.int .i32 u] w fun e w' => e = .returned (.agg #[.int .i64 0, .string (strOfNums (enc u)), .int .i64 0, .int .i64 0, .int .u32 0, .int .i32 0]) ∧ Below w.heap.size w w' :=
  utf8_Set.calls 5 u _ _ _ _ _ _ w (set_is h 0)
theorem setC_not (u : Int) (w : World) (h : ¬ Scal u) :
    Calls Try.prog 11 #[.int .i32 u] w fun e w' => e = .returned (.agg #[.int .i64 11, .string ⟨#[]⟩, .int .i64 0, .int .i64 0, .int .u32 0, .int .i32 0]) ∧ Below w.heap.size w w' :=
  utf8_Set.calls 5 u _ _ _ _ _ _ w (set_not h 5)
end Go.Proofs.Ytaogccmbdmheeaa.U8
