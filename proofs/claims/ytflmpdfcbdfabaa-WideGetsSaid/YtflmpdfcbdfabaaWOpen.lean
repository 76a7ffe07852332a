/- A state, as a parameter, opened and shut. -/
import Derived.Test.YtflmpdfcbdfabaaWd
import Derived.Test.YtflmpdfcbdfabaaPWideGetsx0
import Derived.Lib.SmallJoins
import Derived.ChangeArms
import Derived.ChangeSame
namespace Go.Proofs.Ytflmpdfcbdfabaa.Wd
open Go.ChangeShapes Go.WideShapes Go.Joins Go.RowKit
section
variable {H : Type} {enc : TypeId × Value → H} {w : World} {base : Nat} {spare : Nat → Bool} {held : Bool}
theorem open_state {r : Reach} {b0 : Nat} {v : Value} {d : DataW H} {p : List MemPlace} (hv : Value.okWide Try.prog w r b0 24 v) (h : DataW.Trod enc Try.prog w base spare held 24 v d p) :
    ∃ a b c e : Int, v = .agg #[.int .i64 a, .int .i64 b, .int .u32 c, .int .i32 e] ∧ d = .agg [.lit (.int .i64 a), .lit (.int .i64 b), .lit (.int .u32 c), .lit (.int .i32 e)] ∧ p = [] ∧ (Lit.int .i64 a).wf = true ∧ (Lit.int .i64 b).wf = true ∧ (Lit.int .u32 c).wf = true ∧ (Lit.int .i32 e).wf = true := by
  obtain ⟨v0, v1, v2, v3, y0, y1, y2, y3, n, rfl, rfl, rfl, h0, h1, h2, h3⟩ := open_agg4 Try.underlying24 (by kernel_rfl) (by kernel_rfl) hv h
  obtain ⟨a, e0, rfl, w0⟩ := DataW.trod_int Try.underlying3 h0
  obtain ⟨b, e1, rfl, w1⟩ := DataW.trod_int Try.underlying3 h1
  obtain ⟨c, e2, rfl, w2⟩ := DataW.trod_int Try.underlying22 h2
  obtain ⟨e, e3, rfl, w3⟩ := DataW.trod_int Try.underlying21 h3
  simp only [List.cons.injEq, and_true] at e0 e1 e2 e3
  subst e0 e1 e2 e3
  exact ⟨a, b, c, e, rfl, rfl, rfl, w0, w1, w2, w3⟩
theorem shut_state {a b c e : Int} (w0 : (Lit.int .i64 a).wf = true) (w1 : (Lit.int .i64 b).wf = true) (w2 : (Lit.int .u32 c).wf = true) (w3 : (Lit.int .i32 e).wf = true) :
    DataW.Trod enc Try.prog w base spare held 24 (.agg #[.int .i64 a, .int .i64 b, .int .u32 c, .int .i32 e]) (.agg [.lit (.int .i64 a), .lit (.int .i64 b), .lit (.int .u32 c), .lit (.int .i32 e)]) [] :=
  shut_agg4 (y0 := (.lit (.int .i64 a), [])) (y1 := (.lit (.int .i64 b), [])) (y2 := (.lit (.int .u32 c), [])) (y3 := (.lit (.int .i32 e), [])) Try.underlying24 (by kernel_rfl) (by kernel_rfl) ⟨1, trod_int_mk 0 Try.underlying3 w0⟩ ⟨1, trod_int_mk 0 Try.underlying3 w1⟩ ⟨1, trod_int_mk 0 Try.underlying22 w2⟩ ⟨1, trod_int_mk 0 Try.underlying21 w3⟩
end
end Go.Proofs.Ytflmpdfcbdfabaa.Wd
