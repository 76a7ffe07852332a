/- UcsBack: the plain law, and the walk joined with it. -/
import Derived.Test.YtegogeglofikhaaDoorPUcsBackx3
import Derived.Test.YtegogeglofikhaaDoorUcQ
namespace Go.Proofs.YtegogeglofikhaaDoor.PUcsBack
open Go.Proofs.YtegogeglofikhaaDoor
open Go.RowKit Go.Proofs.YtegogeglofikhaaDoorW.PrintWords Go.Proofs.YtegogeglofikhaaDoorW.PrintLast Go.Proofs.YtegogeglofikhaaDoorW.PrintMore
set_option linter.unusedVariables false
theorem scal_f (u : Int) : ucs_Scalar.f u = some (decide (Uc.Scal u)) := Uc.scalar_f u
theorem high_f (u : Int) : ucs_High.f u = some (decide (Uc.IsH u)) := by
  unfold ucs_High.f Uc.IsH
  by_cases h : u ≥ 55296 <;> by_cases h2 : u < 56320 <;> simp [*] <;> omega
theorem low_f (u : Int) : ucs_Low.f u = some (decide (Uc.IsL u)) := by
  unfold ucs_Low.f Uc.IsL
  by_cases h : u ≥ 56320 <;> by_cases h2 : u ≤ 57343 <;> simp [*] <;> omega
theorem join_f (h l : Int) : ucs_Join.f h l = some (Uc.joinF h l) := by
  unfold ucs_Join.f
  rw [high_f, low_f]
  simp only [Option.bind_some]
  by_cases a : Uc.IsH h
  · by_cases b : Uc.IsL l
    · rw [if_pos (decide_eq_true a), if_pos (decide_eq_true b), Uc.join_val a b, Uc.join_yes a b]
    · rw [if_pos (decide_eq_true a), if_neg (by simp [b]), Uc.join_not (fun x => b x.2)]
  · rw [if_neg (by simp [a]), Uc.join_not (fun x => a x.1)]
theorem and1023 (x : Int) (h0 : 0 ≤ x) (h1 : x < 2147483648) : Go.bits .and .i32 x 1023 = x % 1024 := bits_mask .i32 31 (by decide) Uc.wraps32 10 (by decide) x h0 (by omega)
theorem split_f (u : Int) (hu : -2147483648 ≤ u ∧ u ≤ 2147483647) : ucs_Split.f u = some (if 65536 ≤ u ∧ u ≤ 1114111 then (55296 + (u - 65536) / 1024, 56320 + (u - 65536) % 1024, true) else (0, 0, false)) := by
  unfold ucs_Split.f
  by_cases a : u < 65536
  · rw [if_pos a, if_neg (by omega)]
  rw [if_neg a]
  by_cases b : u > 1114111
  · rw [if_pos b, if_neg (by omega)]
  rw [if_neg b, if_pos (by omega), show wrap32 (u - 65536) = u - 65536 by unfold wrap32; omega, and1023 _ (by omega) (by omega), show wrap32 (55296 + (u - 65536) / 1024) = 55296 + (u - 65536) / 1024 by unfold wrap32; omega, show wrap32 (56320 + (u - 65536) % 1024) = 56320 + (u - 65536) % 1024 by unfold wrap32; omega]
theorem works_f (k : Nat) : dragomanlaw01_works.f k = some true := by
  have e1 : ucs_Join.f 55357 56832 = some (128512, true) := by decide +kernel
  have e2 : decide (Uc.Scal 55296) = false := by decide
  have e3 : decide (Uc.Scal 1114111) = true := by decide
  have e4 : (Uc.hexAll 65).toList = [85, 43, 48, 48, 52, 49] := by
    rw [Uc.hexAll_list 65 (by decide)]
    decide
  unfold dragomanlaw01_works.f
  rw [e1, scal_f, scal_f, e2, e3]
  simp [ucs_Hex.f, e4]
theorem plane_f (u : Int) : ucs_Plane.f u = some (Uc.plane u) := by
  unfold ucs_Plane.f Uc.plane
  rw [scal_f]
  simp only [Option.bind_some]
  by_cases a : Uc.Scal u
  · rw [if_pos (decide_eq_true a), if_pos a]
    obtain ⟨a0, a1, _⟩ := a
    rw [show wrap64 (u / 65536) = u / 65536 by unfold wrap64; omega]
  · rw [if_neg (by simp [a]), if_neg a]
theorem len6 (u : Int) (h : Uc.Scal u) : ((Uc.hexAll u).size : Int) ≥ 6 := by
  rw [Uc.hexAll_size u h, Uc.wd_len]
  split
  · omega
  · split <;> omega
theorem parse_no (u : Int) (h : ¬ Uc.Scal u) : Uc.parseF (Uc.hexAll u) = (0, false) := by
  rw [Uc.hexAll_no u h]
  decide
theorem j1_f (k : Nat) (u : Int) : dragomanlaw01_UcsBack.j1 (k + 3) u = some true := by
  rw [dragomanlaw01_UcsBack.j1]
  simp only [ucs_Hex.f, ucs_Parse.f, Option.bind_some]
  rw [scal_f]
  simp only [Option.bind_some]
  by_cases hs : Uc.Scal u
  · have h6 := len6 u hs
    have nh : ¬ Uc.IsH u := fun h => hs.2.2 ⟨h.1, by have := h.2; omega⟩
    have nl : ¬ Uc.IsL u := fun h => hs.2.2 ⟨by have := h.1; omega, h.2⟩
    rw [if_pos (decide_eq_true hs), Uc.parse_yes u hs, dragomanlaw01_UcsBack.j2, high_f]
    simp only [Option.bind_some]
    rw [if_neg (by simp [nh]), dragomanlaw01_UcsBack.j3, low_f]
    simp only [Option.bind_some]
    rw [if_neg (by simp [nl]), scal_f]
    simp only [Option.bind_some]
    rw [decide_eq_true hs, if_pos (by rfl), if_pos trivial, if_pos trivial, if_pos h6, if_pos (by omega), if_pos hs.1, decide_eq_true hs.2.1]
    rfl
  · rw [if_neg (by simp [hs]), parse_no u hs, dragomanlaw01_UcsBack.j2, high_f]
    simp only [Option.bind_some]
    by_cases hh : Uc.IsH u
    · have nl : ¬ Uc.IsL u := fun h => by have := h.1; have := hh.2; omega
      rw [if_pos (decide_eq_true hh), dragomanlaw01_UcsBack.j3, low_f]
      simp only [Option.bind_some]
      rw [if_neg (by simp [nl]), scal_f]
      simp only [Option.bind_some]
      have h1 := hh.1
      have h2 := hh.2
      rw [decide_eq_false hs, if_pos (by rfl), if_neg (by decide), show wrap64 (0 + 1) = 1 by unfold wrap64; omega, if_pos (by omega), if_pos (by omega), decide_eq_true (show u ≤ 1114111 by omega)]
      rfl
    · rw [if_neg (by simp [hh]), dragomanlaw01_UcsBack.j3, low_f]
      simp only [Option.bind_some]
      by_cases hl : Uc.IsL u
      · rw [if_pos (decide_eq_true hl), scal_f]
        simp only [Option.bind_some]
        have h1 := hl.1
        have h2 := hl.2
        rw [decide_eq_false hs, if_pos (by rfl), if_neg (by decide), show wrap64 (0 + 1) = 1 by unfold wrap64; omega, if_pos (by omega), if_pos (by omega), decide_eq_true (show u ≤ 1114111 by omega)]
        rfl
      · rw [if_neg (by simp [hl]), scal_f]
        simp only [Option.bind_some]
        rw [decide_eq_false hs, if_pos (by rfl), if_neg (by decide), if_pos (by omega)]
        by_cases h0 : u ≥ 0
        · have : ¬ u ≤ 1114111 := fun h => hs ⟨h0, h, fun k => by
            by_cases q : u < 56320
            · exact hh ⟨k.1, q⟩
            · exact hl ⟨by omega, k.2⟩⟩
          rw [if_pos h0, decide_eq_false this]
          rfl
        · rw [if_neg h0]
          rfl
theorem j0_f (k : Nat) (u v : Int) : dragomanlaw01_UcsBack.j0 (k + 4) u v = some true := by
  rw [dragomanlaw01_UcsBack.j0, join_f]
  simp only [Option.bind_some]
  by_cases h : Uc.IsH u ∧ Uc.IsL v
  · obtain ⟨hu, hv⟩ := h
    have u1 := hu.1
    have u2 := hu.2
    have v1 := hv.1
    have v2 := hv.2
    have hsp : ucs_Split.f ((u - 55296) * 1024 + (v - 56320) + 65536) = some (u, v, true) := by
      rw [split_f _ (by omega), if_pos (by omega), show 55296 + ((u - 55296) * 1024 + (v - 56320) + 65536 - 65536) / 1024 = u by omega, show 56320 + ((u - 55296) * 1024 + (v - 56320) + 65536 - 65536) % 1024 = v by omega]
    rw [Uc.join_yes hu hv, if_pos rfl, hsp]
    simp only [Option.bind_some, if_true]
    rw [scal_f]
    simp only [Option.bind_some]
    rw [if_pos (decide_eq_true (Uc.scal_big _ (by omega) (by omega))), j1_f]
  · rw [Uc.join_not h, if_neg (by decide), j1_f]
theorem pure : dragomanlaw01_UcsBack.Pure := by
  intro a b wa wb
  have ha : -2147483648 ≤ a ∧ a ≤ 2147483647 := by simpa [Lit.wf, IntKind.min, IntKind.max, IntKind.signed, IntKind.bits] using wa
  refine ⟨4, ?_⟩
  unfold dragomanlaw01_UcsBack.f
  rw [works_f]
  simp only [Option.bind_some, if_true]
  rw [split_f a (by omega)]
  by_cases h : 65536 ≤ a ∧ a ≤ 1114111
  · have hH : Uc.IsH (55296 + (a - 65536) / 1024) := ⟨by omega, by omega⟩
    have hL : Uc.IsL (56320 + (a - 65536) % 1024) := ⟨by omega, by omega⟩
    have hj : ucs_Join.f (55296 + (a - 65536) / 1024) (56320 + (a - 65536) % 1024) = some (a, true) := by
      rw [join_f, Uc.join_yes hH hL, show (55296 + (a - 65536) / 1024 - 55296) * 1024 + (56320 + (a - 65536) % 1024 - 56320) + 65536 = a by omega]
    rw [if_pos h]
    simp only [Option.bind_some, if_true]
    rw [hj]
    simp only [Option.bind_some, if_true]
    rw [high_f]
    simp only [Option.bind_some]
    rw [if_pos (decide_eq_true hH), low_f]
    simp only [Option.bind_some]
    rw [if_pos (decide_eq_true hL), plane_f]
    simp only [Option.bind_some]
    rw [Uc.plane_eq a (Uc.scal_big a h.1 h.2), if_neg (by omega), j0_f 0]
  · rw [if_neg h]
    simp only [Option.bind_some]
    rw [if_neg (by decide), j0_f 0]
theorem back_walk (W : World) (hT : Uc.Tab W) (a : Int) (wa : (Lit.int .i32 a).wf = true) (b : Int) (wb : (Lit.int .i32 b).wf = true) :
    Calls Tryd.prog 4 #[.int .i32 a, .int .i32 b] W fun e w' => e = .returned (.bool true) ∧ Below W.heap.size W w' :=
  dragomanlaw01_UcsBack.walk pure a b W wa wb hT
end Go.Proofs.YtegogeglofikhaaDoor.PUcsBack
