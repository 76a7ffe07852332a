/- FlowOut: the given row, over the walk Fl.flowOutC. Of arguments of bulk at most 1048576. -/
import Derived.Test.YtadhfojgifhjcaaRows
import Derived.Test.YtadhfojgifhjcaaFlM
import Derived.Deep.CondSized
import Derived.JoinedCond
import Derived.WalkKit
import Derived.ProofKit
import Derived.OpenShut
import Derived.ShutString
import Derived.ChangeOld
import Derived.Below
import Derived.SizedLaws
namespace Go.Proofs.Ytadhfojgifhjcaa.flowOut
open Go.ChangeShapes Go.WideShapes Go.ChangeAt Go.RowKit
open Go.ChangeMaps (open_string shut_string)
set_option linter.unusedVariables false
theorem own : ownKnob Try.prog.godebug = none := by kernel_rfl
theorem laidOut : laidOutB Try.prog = true := by kernel_rfl
set_option maxRecDepth 100000 in
theorem lifted (os : Os) (started : os.Started) (H : Type) (enc : TypeId × Value → H) (F0 : Stop.Interp) :
    ReturnsInHanded {} Try.checked os 4 .any ((Rows.OpenSpec.upto Rows.flowOutSpec).pre6 enc Try.prog Try.f4 Rows.flowOutUptoRow.domain false) (((Rows.OpenSpec.upto Rows.flowOutSpec).at F0).post enc Try.prog Try.f4 false true false false) := by
  refine returnsInHanded_of_cond_sized (C := Try.checked) (s := (Rows.OpenSpec.upto Rows.flowOutSpec)) (k := Rows.uptoSmall) rfl own started (by kernel_rfl) Try.func4
    (OpenSpec.witness (enc := enc) (C := Try.checked) (s := (Rows.OpenSpec.upto Rows.flowOutSpec)) (k := Rows.uptoSmall) rfl false ⟨#[], #[.int .i64 0, .slice none 0 0], []⟩ 8 (by kernel_rfl) (by kernel_rfl) (by kernel_rfl)
      (x := ([.lit (.int .i64 0), .nil], [], [])) (by kernel_rfl) (by kernel_rfl) (by kernel_rfl)) ?_
  intro W base args ds gs before hval0 hW hcnd hk hsz0 _
  have hsz : (DataW.weightsEach Try.prog (Try.f4.params.toList ++ (Rows.OpenSpec.upto Rows.flowOutSpec).bare.plain.varTypes Try.prog) (ds ++ gs)).all (· ≤ reachBytes) = true := hsz0
  have hval : ∀ (j : Nat) t v, Try.f4.params[j]? = some t → args[j]? = some v → Value.okWide Try.prog W .any base t v := hval0
  have hW' := hW
  obtain ⟨p, q, hA0, hV, rfl, hfz, hnd⟩ := hW
  have hA : DataW.TrodAll enc Try.prog W 0 (fun _ => true) true Try.f4.params.toList args.toList ds p := hA0
  rw [Try.params4] at hA hval hsz
  obtain ⟨v0, vs0, d0, ds0, p0, q0, hargs, rfl, rfl, h0, r0⟩ := trodAll_cons hA
  obtain ⟨v1, vs1, d1, ds1, p1, q1, rfl, rfl, rfl, h1, r1⟩ := trodAll_cons r0
  obtain ⟨rfl, rfl, rfl⟩ := trodAll_nil r1
  obtain rfl : args = #[v0, v1] := by cases args; simp_all
  obtain ⟨rfl, rfl⟩ := trodVars_none hV
  obtain ⟨a0, rfl, rfl, rfl, w0⟩ := open_int Try.underlying3 (hval 0 3 v0 rfl rfl) h0
  obtain ⟨a1, len1, cap1, rfl⟩ := okWide_slice Try.underlying27 (hval 1 27 v1 rfl rfl)
  have k1 := h1
  have lt1 : ∀ x ∈ p1, x.block < W.heap.size := by obtain ⟨m, hm⟩ := k1; exact DataW.trod_lt m _ _ _ hm
  obtain ⟨ss, hlen, hC, hbk⟩ : ∃ ss : List ByteArray, len1 = ss.length ∧ Go.Proofs.YtadhfojgifhjcaaW.PrintWords.Kd.C Go.Proofs.YtadhfojgifhjcaaW.PrintWords.Kd.string W a1 ss.length ss ∧ Fl.tot ss ≤ Rows.uptoBulk d1 := by
    obtain ⟨fuel, hf⟩ := h1
    exact Fl.open_strs hf
  subst hlen
  have hk1 : Rows.uptoBulk (.lit (.int .i64 a0) : DataW H) + (Rows.uptoBulk d1 + 0) ≤ 1048576 := of_decide_eq_true hk
  have y1 : Fl.tot ss ≤ 1048576 := by omega
  have hb0 := bounds_i64 w0
  clear hA0 hval0 hsz0 hsz
  refine (Fl.flowOutC a0 a1 cap1 ss W hC y1 hb0.2).mono fun e W' ⟨he, bel⟩ => ?_
  subst he
  exact ⟨_, rfl, _, _, _, [], _, [], hW', trodAll_mk1 (shut_bool Try.underlying4 _), (trodAll_cons_mk (shut_int Try.underlying3 w0) (trodAll_cons_mk (Below.trod laidOut (by kernel_rfl) (of_decide_eq_true (by kernel_rfl)) k1 bel lt1) trodAll_mk0)), rfl, bel.frame _, fun h => by cases h⟩
theorem over : Rows.flowOutUptoRow.holds Try.pinned (Rows.OpenSpec.upto Rows.flowOutSpec) :=
  OpenClaim.holds_of_cond 4 Try.f4 rfl rfl rfl rfl rfl rfl rfl ⟨rfl, rfl, rfl, rfl, rfl⟩ rfl rfl rfl rfl rfl (by kernel_rfl) Try.func4 (by kernel_rfl)
    (of_decide_eq_true (by kernel_rfl)) (by unfold Func.isWrapper; first | (rw [if_pos (by decide +kernel)]; kernel_rfl) | (rw [if_neg (by decide +kernel)]; exact ⟨rfl, rfl⟩))
    (fun os started H enc _ F0 => lifted os started H enc F0)
end Go.Proofs.Ytadhfojgifhjcaa.flowOut
namespace Go.Proofs.Ytadhfojgifhjcaa
/-- The row, under a short name, for the claim. -/
theorem flowOut_row : Rows.FlowOutUptoSaid := flowOut.over
end Go.Proofs.Ytadhfojgifhjcaa
