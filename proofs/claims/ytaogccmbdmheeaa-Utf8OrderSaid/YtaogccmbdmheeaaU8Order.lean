/- Utf8Order, walked: texts of UTF-8 stand in the order of their scalars. -/
import Derived.Test.YtaogccmbdmheeaaU8Works
import Derived.Lib.Bytes
import Derived.Lib.Hide
namespace Go.Proofs.Ytaogccmbdmheeaa.U8
open Go.RowKit Go.Proofs.YtaogccmbdmheeaaW.PrintWords Go.Proofs.YtaogccmbdmheeaaW.PrintLast Go.Proofs.YtaogccmbdmheeaaW.PrintMore
/-- bytesLess over numbers. -/
def lessI : List Int → List Int → Bool
  | _, [] => false
  | [], _ :: _ => true
  | a :: x, b :: y => decide (a < b) || (a == b && lessI x y)
theorem u8_lt {a b : Int} (ha : Byte a) (hb : Byte b) : (UInt8.ofNat a.toNat < UInt8.ofNat b.toNat) ↔ a < b := by
  unfold Byte at ha hb
  rw [UInt8.lt_iff_toNat_lt, UInt8.toNat_ofNat', UInt8.toNat_ofNat']
  omega
theorem u8_eq {a b : Int} (ha : Byte a) (hb : Byte b) : (UInt8.ofNat a.toNat = UInt8.ofNat b.toNat) ↔ a = b := by
  unfold Byte at ha hb
  rw [← UInt8.toNat_inj, UInt8.toNat_ofNat', UInt8.toNat_ofNat']
  omega
theorem less_is (x y : List Int) (hx : ∀ a ∈ x, Byte a) (hy : ∀ a ∈ y, Byte a) : Op.bytesLess (strOfNums x).toList (strOfNums y).toList = lessI x y := by
  rw [Lib.strOfNums_toList, Lib.strOfNums_toList]
  unfold Lib.bytesOf
  induction x generalizing y with
  | nil => cases y <;> rfl
  | cons a x ih =>
    cases y with
    | nil => rfl
    | cons b y =>
      have ha := hx a (by simp)
      have hb := hy b (by simp)
      simp only [List.map_cons, Op.bytesLess, lessI]
      rw [ih y (fun c hc => hx c (by simp [hc])) (fun c hc => hy c (by simp [hc]))]
      have e1 : decide (UInt8.ofNat a.toNat < UInt8.ofNat b.toNat) = decide (a < b) := decide_eq_decide.2 (u8_lt ha hb)
      have e2 : (UInt8.ofNat a.toNat == UInt8.ofNat b.toNat) = (a == b) := by
        rw [Bool.eq_iff_iff, beq_iff_eq, beq_iff_eq]
        exact u8_eq ha hb
      rw [e1, e2]
theorem enc_order {u v : Int} (hu : Scal u) (hv : Scal v) : decide (u < v) = lessI (enc u) (enc v) := by
  obtain ⟨u0, u1, _⟩ := hu
  obtain ⟨v0, v1, _⟩ := hv
  rw [Bool.eq_iff_iff, decide_eq_true_iff]
  unfold enc
  repeat' split
  all_goals simp only [lessI, Bool.or_eq_true, Bool.and_eq_true, decide_eq_true_iff, beq_iff_eq]
  all_goals simp
  all_goals omega
theorem enc_len {u v : Int} (h : u ≤ v) : (enc u).length ≤ (enc v).length := by
  unfold enc
  repeat' split
  all_goals first | (simp; done) | (exfalso; omega)
theorem str_size (l : List Int) : (strOfNums l).size = l.length := by
  unfold strOfNums ByteArray.size
  simp
set_option maxRecDepth 100000 in
theorem order_yes (u v : Int) (w : World) (hu : Scal u) (hv : Scal v) : Calls Try.prog 8 #[.int .i32 u, .int .i32 v] w fun e w' => e = .returned (.bool true) ∧ Below w.heap.size w w' := by
  have hord : decide (u < v) = Op.bytesLess (strOfNums (enc u)).toList (strOfNums (enc v)).toList := by
    rw [less_is _ _ (enc_bytes hu) (enc_bytes hv)]
    exact enc_order hu hv
  have HO := Lib.hid hord
  clear hord
  go_enter Try.func8, Try.ntmps8
  go_wp2_with fail
  refine (works_calls _).mono ?_
  rintro e w1 ⟨rfl, hb1⟩
  have HB1 : Hid (Below w.heap.size w w1) := hb1
  clear hb1
  go_wp2_with fail
  refine (refScalarC u _).mono ?_
  rintro e w2 ⟨rfl, rfl⟩
  rw [decide_eq_true hu]
  go_wp2_with fail
  refine (refScalarC v _).mono ?_
  rintro e w2 ⟨rfl, rfl⟩
  rw [decide_eq_true hv]
  go_wp2_with fail
  refine (setC u _ hu).mono ?_
  rintro e w3 ⟨rfl, hb3⟩
  have HB3 : Hid (Below w.heap.size w w3) := on HB1.out hb3
  clear hb3
  go_wp2_with fail
  refine (setC v _ hv).mono ?_
  rintro e w4 ⟨rfl, hb4⟩
  have HB4 : Hid (Below w.heap.size w w4) := on HB3.out hb4
  clear hb4
  go_wp2_with fail
  all_goals
    go_ret
    refine ⟨?_, below_alloc (below_alloc HB4.out _) _⟩
    first
      | rfl
      | exact absurd HO.out (by assumption)
      | (have hle : u ≤ v := by assumption
         have hl := enc_len hle
         rw [str_size, str_size, decide_eq_true hl, Bool.or_true]
         rfl)
set_option maxRecDepth 100000 in
theorem order_no (u v : Int) (w : World) (h : ¬ (Scal u ∧ Scal v)) : Calls Try.prog 8 #[.int .i32 u, .int .i32 v] w fun e w' => e = .returned (.bool true) ∧ Below w.heap.size w w' := by
  by_cases hu : Scal u
  · have hv : ¬ Scal v := fun hv => h ⟨hu, hv⟩
    go_enter Try.func8, Try.ntmps8
    go_wp2_with fail
    refine (works_calls _).mono ?_
    rintro e w1 ⟨rfl, hb1⟩
    have HB1 : Hid (Below w.heap.size w w1) := hb1
    clear hb1
    go_wp2_with fail
    refine (refScalarC u _).mono ?_
    rintro e w2 ⟨rfl, rfl⟩
    rw [decide_eq_true hu]
    go_wp2_with fail
    refine (refScalarC v _).mono ?_
    rintro e w2 ⟨rfl, rfl⟩
    rw [decide_eq_false hv]
    go_wp2_with fail
    go_ret
    exact ⟨rfl, HB1.out⟩
  · go_enter Try.func8, Try.ntmps8
    go_wp2_with fail
    refine (works_calls _).mono ?_
    rintro e w1 ⟨rfl, hb1⟩
    have HB1 : Hid (Below w.heap.size w w1) := hb1
    clear hb1
    go_wp2_with fail
    refine (refScalarC u _).mono ?_
    rintro e w2 ⟨rfl, rfl⟩
    rw [decide_eq_false hu]
    go_wp2_with fail
    go_ret
    exact ⟨rfl, HB1.out⟩
theorem order_walk (u : Int) (_ : (Lit.int .i32 u).wf = true) (v : Int) (_ : (Lit.int .i32 v).wf = true) (w : World) : Calls Try.prog 8 #[.int .i32 u, .int .i32 v] w fun e w' => e = .returned (.bool true) ∧ Below w.heap.size w w' := by
  by_cases h : Scal u ∧ Scal v
  · exact order_yes u v w h.1 h.2
  · exact order_no u v w h
end Go.Proofs.Ytaogccmbdmheeaa.U8
