/- What the tie gives the walks of uc: the table of math/bits; a start that meets all tables. -/
import Derived.Test.YtegogeglofikhaaDoorRows
import Derived.Test.YtegogeglofikhaaDoorUcF
import Derived.ProofKit
import Derived.OpenShut
import Derived.LaidMore
import Derived.Lay
import Derived.Stop.Joined
namespace Go.Proofs.YtegogeglofikhaaDoor.Uc
open Go.ChangeShapes Go.WideShapes Go.ChangeAt Go.RowKit
open Go.Proofs.YtegogeglofikhaaDoorW.PrintWords
abbrev laidL : List (String × DataW Unit) := [("math/bits.deBruijn32tab", Rows.laid_math_bits_deBruijn32tab), ("math/bits.deBruijn64tab", Rows.laid_math_bits_deBruijn64tab), ("internal/strconv.uint64pow10", Rows.laid_internal_strconv_uint64pow10), ("unicode/utf8.acceptRanges", Rows.laid_unicode_utf8_acceptRanges), ("unicode.CaseRanges", Rows.laid_unicode_CaseRanges), ("unicode/utf8.first", Rows.laid_unicode_utf8_first)]
theorem u8_cells {H : Type} {enc : TypeId × Value → H} {W : World} {base : Nat} {spare : Nat → Bool} {held : Bool} {fuel t n : Nat} {cs : List Value} {q : List MemPlace} (l : List Int) (hu : Tryd.prog.underlying t = some (.array n 5)) (hl : l.length = n)
    (hd : DataW.trod enc Tryd.prog W base spare held fuel t cs = some (.agg (l.map fun x => .lit (.int .u8 x)), q)) (i : Nat) (hi : i < n) : cs[i]? = some (.int .u8 (l.getD i 0)) := by
  obtain ⟨xs, m1, rfl, hx, hlen, hn, hel⟩ := DataW.trod_array hu hd
  have c3 : Tryd.prog.cellsOf 5 = 1 := by kernel_rfl
  simp only [Prod.mk.injEq, DataW.agg.injEq] at hx
  have e := hel i hi
  rw [c3, Nat.mul_one, List.getElem?_eq_getElem (by omega)] at e
  obtain ⟨k, e1, e2, _⟩ := DataW.trod_int Tryd.underlying5 e
  have e3 := congrArg (fun l : List (DataW H) => l[i]?) hx.1
  simp only [List.getElem?_map, List.getElem?_eq_getElem (show i < l.length by omega), List.getElem?_eq_getElem (show i < xs.length by omega), Option.map_some, e2, Option.some.injEq, DataW.lit.injEq, Lit.int.injEq, true_and] at e3
  have e4 := congrArg (fun l : List Value => l[0]?) e1
  simp only [List.getElem?_take, List.getElem?_drop, Nat.add_zero, List.getElem?_cons_zero] at e4
  rw [if_pos (by omega)] at e4
  rw [e4, ← e3]
  simp [List.getD_eq_getElem?_getD, List.getElem?_eq_getElem (show i < l.length by omega)]
abbrev bruijn : List Int := [0, 1, 56, 2, 57, 49, 28, 3, 61, 58, 42, 50, 38, 29, 17, 4, 62, 47, 59, 36, 45, 43, 51, 22, 53, 39, 33, 30, 24, 18, 12, 5, 63, 55, 48, 27, 60, 41, 37, 16, 46, 35, 44, 21, 52, 32, 23, 11, 54, 26, 40, 15, 34, 20, 31, 10, 25, 14, 19, 9, 13, 8, 7, 6]
theorem g64 : Tryd.prog.globalNamed "math/bits.deBruijn64tab" = some 6 := by kernel_rfl
theorem t64 : ∃ t, (Tryd.prog.globals[6]?).map (·.type) = some t ∧ Tryd.prog.underlying t = some (.array 64 5) := ⟨(Tryd.prog.globals[6]!).type, by kernel_rfl, by kernel_rfl⟩
theorem of_laid {W : World} (h : laidMetH Tryd.prog laidL W) : Tab W := by
  rw [MakeChecks.laidMetH_plain _ _ _ (by kernel_rfl)] at h
  obtain ⟨ps, ⟨g0, t0, cs0, f0, p0, q0, hg0, ht0, hv0, hd0, ⟨g1, t1, cs1, f1, p1, q1, hg1, ht1, hv1, hd1, _, _⟩, _⟩, _, _⟩ := h
  obtain rfl := Option.some.inj (g64.symm.trans hg1)
  obtain ⟨t, e1, e2⟩ := t64
  obtain rfl := Option.some.inj (e1.symm.trans ht1)
  exact (World.var?_cell hg1 hv1 15).trans (by rw [← Array.getElem?_toList]; exact u8_cells bruijn e2 rfl hd1 15 (by omega))
theorem laid_met (os : Os) (args : Array Value) : laidMetH Tryd.prog laidL ((World.laidAll Tryd.prog os laidL).forCall (fun _ _ => 0) ⟨#[], args, []⟩).memory := by
  rw [MakeChecks.laidMetH_plain _ _ _ (by kernel_rfl)]
  exact laidMet_laidAll _ (by kernel_rfl) (by kernel_rfl)
end Go.Proofs.YtegogeglofikhaaDoor.Uc
