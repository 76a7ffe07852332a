/- The statements' own trial of utf8 (dragomanlaw03.works) answers true; what the reference's Scalar tells. -/
import Derived.Test.YtaogccmbdmheeaaU8Get
import Derived.Test.YtaogccmbdmheeaaU8Set
namespace Go.Proofs.Ytaogccmbdmheeaa.U8
open Go.RowKit Go.Proofs.YtaogccmbdmheeaaW.PrintWords Go.Proofs.YtaogccmbdmheeaaW.PrintLast Go.Proofs.YtaogccmbdmheeaaW.PrintMore
/-- A literal of bytes, laid just now. -/
theorem litC (W : World) (e : Nat) (xs : List Int) (h : xs.length ≤ 9223372036854775807) : Kd.C (Kd.int .u8) (W.alloc (.cells (nums .u8 xs).toArray e)) (some ⟨W.heap.size, 0, none⟩) xs.length xs :=
  Kd.C_of_reads (own_reads' (own_lit W W.heap.size e .u8 xs (Nat.le_refl _) h))
/-- A call behind other things that wrote nothing old. -/
theorem on {w W w1 : World} (h : Below w.heap.size w W) (k : Below W.heap.size W w1) : Below w.heap.size w w1 := below_then h h.size k
theorem onA {w W w1 : World} {o : Obj} (h : Below w.heap.size w W) (k : Below (W.alloc o).heap.size (W.alloc o) w1) : Below w.heap.size w w1 := on (below_alloc h o) k
theorem bytes3 {a b c : Int} (ha : Byte a) (hb : Byte b) (hc : Byte c) : ∀ x ∈ [a, b, c], Byte x := by
  intro x hx
  simp at hx
  rcases hx with rfl | rfl | rfl <;> assumption
theorem str_euro : strOfNums (enc 8364) = ⟨#[226, 130, 172]⟩ := by decide +kernel
/-- Fields of what Set answers: Err, Bytes. -/
theorem field_err (a : Int) (s : ByteArray) (b c d f : Int) (w : World) : (Instr.field 27 (.agg #[.int .i64 a, .string s, .int .i64 b, .int .i64 c, .int .u32 d, .int .i32 f]) 0).run Try.prog w = .ok (.int .i64 a) w := by kernel_rfl
theorem field_bytes (a : Int) (s : ByteArray) (b c d f : Int) (w : World) : (Instr.field 27 (.agg #[.int .i64 a, .string s, .int .i64 b, .int .i64 c, .int .u32 d, .int .i32 f]) 1).run Try.prog w = .ok (.string s) w := by kernel_rfl
set_option maxRecDepth 100000 in
theorem works_calls (w : World) : Calls Try.prog 19 #[] w fun e w' => e = .returned (.bool true) ∧ Below w.heap.size w w' := by
  go_enter Try.func19, Try.ntmps19
  go_wp2_with fail
  refine (getC _ _ [195, 164, 65] _ _ _ _ _ _ _ _ _ _ (litC w 5 [195, 164, 65] (by decide)) (by decide) (bytes3 (by unfold Byte; omega) (by unfold Byte; omega) (by unfold Byte; omega)) (show dec [195, 164, 65] = (0, 2, 1, 228, 0, 0, 0, 0, 0) by kernel_rfl)).mono ?_
  rintro e w1 ⟨rfl, hb1⟩
  have HB1 : Hid (Below w.heap.size w w1) := onA (Below.refl _ _) hb1
  clear hb1
  go_wp2_with fail
  refine (getC _ _ [237, 160, 128] _ _ _ _ _ _ _ _ _ _ (litC w1 5 [237, 160, 128] (by decide)) (by decide) (bytes3 (by unfold Byte; omega) (by unfold Byte; omega) (by unfold Byte; omega)) (show dec [237, 160, 128] = (10, 1, 0, 0, 0, 0, 0, 0, 0) by kernel_rfl)).mono ?_
  rintro e w2 ⟨rfl, hb2⟩
  have HB2 : Hid (Below w.heap.size w w2) := onA HB1.out hb2
  clear hb2
  go_wp2_with fail
  refine (setC 8364 _ (by decide)).mono ?_
  rintro e w3 ⟨rfl, hb3⟩
  have HB3 : Hid (Below w.heap.size w w3) := on HB2.out hb3
  clear hb3
  rw [str_euro]
  go_wp2_with fail
  refine (setC_not 55296 _ (by decide)).mono ?_
  rintro e w4 ⟨rfl, hb4⟩
  have HB4 : Hid (Below w.heap.size w w4) := on HB3.out hb4
  clear hb4
  have hf := field_err 11 ⟨#[]⟩ 0 0 0 0 w4
  go_wp2_with fail
  go_ret
  exact ⟨rfl, HB4.out⟩

/-- dragomanref01.Scalar, by the words of the plain facts. -/
theorem refScalarC (u : Int) (w : World) : Calls Try.prog 20 #[.int .i32 u] w fun e w' => e = .returned (.bool (decide (Scal u))) ∧ w = w' := by
  by_cases c1 : 0 ≤ u
  · by_cases c2 : u ≤ 1114111
    · by_cases c3 : u < 55296
      · have e : decide (Scal u) = true := decide_eq_true (by unfold Scal; omega)
        rw [e]
        go_enter Try.func20, Try.ntmps20
        go_wp2
        go_ret
        exact ⟨rfl, rfl⟩
      · by_cases c4 : 57343 < u
        · have e : decide (Scal u) = true := decide_eq_true (by unfold Scal; omega)
          rw [e]
          go_enter Try.func20, Try.ntmps20
          go_wp2
          go_ret
          exact ⟨rfl, rfl⟩
        · have e : decide (Scal u) = false := decide_eq_false (by unfold Scal; omega)
          rw [e]
          go_enter Try.func20, Try.ntmps20
          go_wp2
          go_ret
          exact ⟨rfl, rfl⟩
    · have e : decide (Scal u) = false := decide_eq_false (by unfold Scal; omega)
      rw [e]
      go_enter Try.func20, Try.ntmps20
      go_wp2
      go_ret
      exact ⟨rfl, rfl⟩
  · have e : decide (Scal u) = false := decide_eq_false (by unfold Scal; omega)
    rw [e]
    go_enter Try.func20, Try.ntmps20
    go_wp2
    go_ret
    exact ⟨rfl, rfl⟩
end Go.Proofs.Ytaogccmbdmheeaa.U8
