/- JohabPacks: the given row, over the walk J.packs_walk. No condition. -/
import Derived.Test.YtdihghjjinlaaaaDoorRows
import Derived.Test.YtdihghjjinlaaaaDoorJPacks
import Derived.Test.YtdihghjjinlaaaaDoorJLaid
import Derived.Test.YtdihghjjinlaaaaDoorCards
import Derived.Test.YtdihghjjinlaaaaDoorTie
import Derived.SevenTiedAt
import Derived.WalkKit
import Derived.ProofKit
import Derived.OpenShut
import Derived.ShutString
import Derived.ChangeOld
import Derived.Below
import Derived.SizedLaws
namespace Go.Proofs.YtdihghjjinlaaaaDoor.johabPacks
open Go.ChangeShapes Go.WideShapes Go.ChangeAt Go.RowKit
open Go.ChangeMaps (open_string shut_string)
set_option linter.unusedVariables false
theorem own : ownKnob Tryd.prog.godebug = none := by kernel_rfl
theorem laidOut : laidOutB Tryd.prog = true := by kernel_rfl
set_option maxRecDepth 100000 in
theorem lifted (os : Os) (started : os.Started) (H : Type) (enc : TypeId × Value → H) :
    ReturnsInHanded {} Tryd.checked os 3 .any (fun w args => (Rows.johabPacksSpec.pre enc Tryd.prog Tryd.f3 [] false w args ∧ laidMetH Tryd.prog J.laidL w) ∧ sizedMet enc Tryd.prog Tryd.f3 (OpenSpec.ofChange Rows.johabPacksSpec) false w args) (Rows.johabPacksSpec.post enc Tryd.prog Tryd.f3 false true false false) := by
  refine returnsInHanded_of_change_and (C := Tryd.checked) (X := fun w _ => laidMetH Tryd.prog J.laidL w) (fun _ _ _ hh h => h.of_heap hh) own started (by kernel_rfl) Tryd.func3
    (ChangeSpec.witness_shaped (enc := enc) (C := Tryd.checked) (os := os) (X := fun w _ => laidMetH Tryd.prog J.laidL w) false (World.doorLaid Tryd.prog 400 os) #[.int .i64 0, .int .i64 0, .int .i64 0, .int .i64 0] 8 rfl (World.shaped_of_RefB (by kernel_rfl) (by kernel_rfl)) (by kernel_rfl) (by kernel_rfl) (by kernel_rfl) (J.door_met os _)) ?_
  intro W base args ds gs before hval0 hW hcnd hsz0 hL _
  have htab := J.of_laid hL
  have hsz : (DataW.weightsEach Tryd.prog (Tryd.f3.params.toList ++ Rows.johabPacksSpec.plain.varTypes Tryd.prog) (ds ++ gs)).all (· ≤ reachBytes) = true := hsz0
  have hval : ∀ (j : Nat) t v, Tryd.f3.params[j]? = some t → args[j]? = some v → Value.okWide Tryd.prog W .any base t v := hval0
  have hW' := hW
  obtain ⟨p, q, hA0, hV, rfl, hfz, hnd⟩ := hW
  have hA : DataW.TrodAll enc Tryd.prog W 0 (fun _ => true) true Tryd.f3.params.toList args.toList ds p := hA0
  rw [Tryd.params3] at hA hval hsz
  obtain ⟨v0, vs0, d0, ds0, p0, q0, hargs, rfl, rfl, h0, r0⟩ := trodAll_cons hA
  obtain ⟨v1, vs1, d1, ds1, p1, q1, rfl, rfl, rfl, h1, r1⟩ := trodAll_cons r0
  obtain ⟨v2, vs2, d2, ds2, p2, q2, rfl, rfl, rfl, h2, r2⟩ := trodAll_cons r1
  obtain ⟨v3, vs3, d3, ds3, p3, q3, rfl, rfl, rfl, h3, r3⟩ := trodAll_cons r2
  obtain ⟨rfl, rfl, rfl⟩ := trodAll_nil r3
  obtain rfl : args = #[v0, v1, v2, v3] := by cases args; simp_all
  obtain ⟨rfl, rfl⟩ := trodVars_none hV
  obtain ⟨a0, rfl, rfl, rfl, w0⟩ := open_int Tryd.underlying3 (hval 0 3 v0 rfl rfl) h0
  obtain ⟨a1, rfl, rfl, rfl, w1⟩ := open_int Tryd.underlying3 (hval 1 3 v1 rfl rfl) h1
  obtain ⟨a2, rfl, rfl, rfl, w2⟩ := open_int Tryd.underlying3 (hval 2 3 v2 rfl rfl) h2
  obtain ⟨a3, rfl, rfl, rfl, w3⟩ := open_int Tryd.underlying3 (hval 3 3 v3 rfl rfl) h3
  clear hA0 hval0 hsz0 hsz
  refine (J.packs_walk W htab a0 w0 a1 w1 a2 w2 a3 w3).mono fun e W' ⟨he, bel⟩ => ?_
  subst he
  exact ⟨_, rfl, _, _, _, [], _, [], hW', trodAll_mk1 (shut_bool Tryd.underlying4 _), (trodAll_cons_mk (shut_int Tryd.underlying3 w0) (trodAll_cons_mk (shut_int Tryd.underlying3 w1) (trodAll_cons_mk (shut_int Tryd.underlying3 w2) (trodAll_cons_mk (shut_int Tryd.underlying3 w3) trodAll_mk0)))), rfl, bel.frame _, fun h => by cases h⟩
theorem over : Rows.johabPacksRow.holds Tryd.pinned (OpenSpec.ofChange Rows.johabPacksSpec) :=
  OpenClaim.holds_of_wide 3 Tryd.f3 rfl rfl rfl rfl rfl rfl rfl ⟨rfl, rfl, rfl, rfl, rfl⟩ rfl rfl rfl rfl rfl (by kernel_rfl) Tryd.func3 (by kernel_rfl)
    (of_decide_eq_true (by kernel_rfl)) (by unfold Func.isWrapper; first | (rw [if_pos (by decide +kernel)]; kernel_rfl) | (rw [if_neg (by decide +kernel)]; exact ⟨rfl, rfl⟩))
    (fun os started H enc _ => lifted os started H enc)
end Go.Proofs.YtdihghjjinlaaaaDoor.johabPacks
namespace Go.Proofs.YtdihghjjinlaaaaDoor
/-- The row, under a short name, for the claim. -/
theorem johabPacks_row : Rows.JohabPacksSaid := johabPacks.over
theorem johabPacks_card : Rows.JohabPacksCardSaid :=
  Claim7.holds_tied_plain_at .later [] [.widerDeep, .widerDeep] true (true, "3a950b8124e370f7c52c634f2bebec42d7077ddd92be3c9e35744d7ff0697feb") false
    johabPacks_row (fun _ h => by cases h) (by kernel_rfl) (fun _ h => by cases h) johabPacks_row_tie rfl ⟨rfl, rfl⟩ (by kernel_rfl) rfl
    (fun f fn hf hfn => by
      obtain rfl : f = 3 := Option.some.inj ((show Tryd.prog.funcNamed "dragoman/dragomanlaw19.JohabPacks" = some 3 by kernel_rfl).symm.trans hf) |>.symm
      obtain rfl : fn = Tryd.f3 := (Option.some.inj (Tryd.func3.symm.trans hfn)).symm
      exact ⟨by kernel_rfl, fun j t ht => by
        rw [Tryd.params3] at ht
        have hm : t ∈ ([3, 3, 3, 3] : List TypeId) := by simpa using Array.mem_of_getElem? ht
        have hall : (([3, 3, 3, 3] : List TypeId).all fun u => !Tryd.prog.wantsStandIn u) = true := by kernel_rfl
        exact (show Tryd.prog.wantsStandIn t = false by simpa using List.all_eq_true.1 hall t hm)⟩)
    (by kernel_rfl)
end Go.Proofs.YtdihghjjinlaaaaDoor
