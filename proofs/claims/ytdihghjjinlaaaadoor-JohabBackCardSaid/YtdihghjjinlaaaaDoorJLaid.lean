/- What the tie gives the walks: the two tables' cells; the door's own run meets it. -/
import Derived.Test.YtdihghjjinlaaaaDoorRows
import Derived.Test.YtdihghjjinlaaaaDoorJ
import Derived.ProofKit
import Derived.LaidMore
import Derived.Stop.Joined
namespace Go.Proofs.YtdihghjjinlaaaaDoor.J
open Go.ChangeShapes Go.WideShapes Go.ChangeAt Go.RowKit
open Go.Proofs.YtdihghjjinlaaaaDoorW.PrintWords
abbrev laidL {H : Type} : List (String × DataW H) := [("dragoman/johab.middles", Rows.laid_dragoman_johab_middles), ("dragoman/johab.lasts", Rows.laid_dragoman_johab_lasts)]
theorem arr_cells {H : Type} {enc : TypeId × Value → H} {W : World} {base : Nat} {spare : Nat → Bool} {held : Bool} {fuel t n : Nat} {cs : List Value} {q : List MemPlace} (l : List Int) (hu : Tryd.prog.underlying t = some (.array n 3)) (hl : l.length = n)
    (hd : DataW.trod enc Tryd.prog W base spare held fuel t cs = some (.agg (l.map fun x => .lit (.int .i64 x)), q)) (i : Nat) (hi : i < n) : cs[i]? = some (.int .i64 (rd l (i : Int))) := by
  obtain ⟨xs, m1, rfl, hx, hlen, hn, hel⟩ := DataW.trod_array hu hd
  have c3 : Tryd.prog.cellsOf 3 = 1 := by kernel_rfl
  simp only [Prod.mk.injEq, DataW.agg.injEq] at hx
  have e := hel i hi
  rw [c3, Nat.mul_one, List.getElem?_eq_getElem (by omega)] at e
  obtain ⟨k, e1, e2, _⟩ := DataW.trod_int Tryd.underlying3 e
  have e3 := congrArg (fun l : List (DataW H) => l[i]?) hx.1
  simp only [List.getElem?_map, List.getElem?_eq_getElem (show i < l.length by omega), List.getElem?_eq_getElem (show i < xs.length by omega), Option.map_some, e2, Option.some.injEq, DataW.lit.injEq, Lit.int.injEq, true_and] at e3
  have e4 := congrArg (fun l : List Value => l[0]?) e1
  simp only [List.getElem?_take, List.getElem?_drop, Nat.add_zero, List.getElem?_cons_zero] at e4
  rw [if_pos (by omega)] at e4
  rw [e4, ← e3]
  simp [rd, List.getD_eq_getElem?_getD, List.getElem?_eq_getElem (show i < l.length by omega)]
theorem gMid : Tryd.prog.globalNamed "dragoman/johab.middles" = some 0 := by kernel_rfl
theorem gLas : Tryd.prog.globalNamed "dragoman/johab.lasts" = some 1 := by kernel_rfl
theorem tMid : (Tryd.prog.globals[0]?).map (·.type) = some 47 := by kernel_rfl
theorem tLas : (Tryd.prog.globals[1]?).map (·.type) = some 48 := by kernel_rfl
theorem of_laid {W : World} (h : laidMetH Tryd.prog laidL W) : Tab W := by
  rw [MakeChecks.laidMetH_plain _ _ _ (by kernel_rfl)] at h
  obtain ⟨ps, ⟨g0, t0, cs0, f0, p0, q0, hg0, ht0, hv0, hd0, ⟨g1, t1, cs1, f1, p1, q1, hg1, ht1, hv1, hd1, _, _⟩, _⟩, _, _⟩ := h
  obtain rfl := Option.some.inj (gMid.symm.trans hg0)
  obtain rfl := Option.some.inj (gLas.symm.trans hg1)
  obtain rfl := Option.some.inj (tMid.symm.trans ht0)
  obtain rfl := Option.some.inj (tLas.symm.trans ht1)
  have h0 : ∀ i : Nat, i < 21 → W.cell? ⟨0, i, none⟩ = some (.int .i64 (rd mid (i : Int))) := fun i hi =>
    (World.var?_cell hg0 hv0 i).trans (by rw [← Array.getElem?_toList]; exact arr_cells mid Tryd.underlying47 rfl hd0 i hi)
  have h1 : ∀ i : Nat, i < 28 → W.cell? ⟨1, i, none⟩ = some (.int .i64 (rd las (i : Int))) := fun i hi =>
    (World.var?_cell hg1 hv1 i).trans (by rw [← Array.getElem?_toList]; exact arr_cells las Tryd.underlying48 rfl hd1 i hi)
  refine ⟨?_, h0, h1⟩
  have := h1 0 (by omega)
  rcases Nat.lt_or_ge 1 W.heap.size with h2 | h2
  · exact h2
  · exfalso
    simp [World.cell?, Array.getElem?_eq_none h2] at this
theorem door_met (os : Os) (args : Array Value) : laidMetH Tryd.prog laidL ((World.doorLaid Tryd.prog 400 os).forCall (fun _ _ => 0) ⟨#[], args, []⟩).memory :=
  laidMetH_of_parts3 (fuel := 8) (laidMet_of_run' 8 (by kernel_rfl) (by kernel_rfl)) (by kernel_rfl) (by kernel_rfl)
end Go.Proofs.YtdihghjjinlaaaaDoor.J
