/- Hexadecimal writing, walked: TrailingZeros at 16, formatBits at base 16. -/
import Derived.Test.YtegogeglofikhaaDoorShelf
import Derived.Test.YtegogeglofikhaaDoorWMore
import Derived.Lib.Hide
import Derived.Outline
import Derived.WalkKit
import Derived.WalkSpells
import Derived.KernelRfl
import Derived.Deep.CutBlock
import Derived.Deep.DeepCutAuto
import Derived.Laws.BitsLemmas
import Derived.BigQuiet
namespace Go.Proofs.YtegogeglofikhaaDoor.Uc
open Go.RowKit Go.Proofs.YtegogeglofikhaaDoorW.PrintWords Go.Proofs.YtegogeglofikhaaDoorW.PrintLast Go.Proofs.YtegogeglofikhaaDoorW.PrintMore
set_option linter.unusedVariables false
/-- What the walk reads of the library's table. -/
def Tab (w : World) : Prop := w.cell? ⟨6, 15, none⟩ = some (.int .u8 4)
set_option maxRecDepth 100000 in
theorem tz64C (w : World) (hT : w.cell? ⟨6, 15, none⟩ = some (.int .u8 4)) : Calls Tryd.prog 76 #[.int .u64 16] w fun e w' => e = .returned (.int .i64 4) ∧ w = w' := by
  have e0 : IntKind.u64.wrap (-16) = 18446744073709551600 := by decide
  have e1 : bits .and .u64 16 18446744073709551600 = 16 := by decide +kernel
  have e2 : IntKind.u64.wrap 4573923408821661840 = 4573923408821661840 := by decide
  go_enter Tryd.func76, Tryd.ntmps76
  go_wp2_with fail
  go_ret
  exact ⟨rfl, rfl⟩
set_option maxRecDepth 100000 in
theorem tzC (w : World) (hT : Tab w) : Calls Tryd.prog 71 #[.int .u64 16] w fun e w' => e = .returned (.int .i64 4) ∧ w = w' := by
  go_enter Tryd.func71, Tryd.ntmps71
  go_wp2_with fail
  refine (tz64C _ hT).mono ?_
  rintro e w' ⟨rfl, rfl⟩
  go_wp2_with fail
  go_ret
  exact ⟨rfl, rfl⟩
set_option maxRecDepth 100000 in
theorem pow2C (w : World) : Calls Tryd.prog 70 #[.int .i64 16] w fun e w' => e = .returned (.bool true) ∧ w = w' := by
  have e1 : bits .and .i64 16 15 = 0 := by decide +kernel
  go_enter Tryd.func70, Tryd.ntmps70
  go_wp2_with fail
  go_ret
  exact ⟨rfl, rfl⟩
theorem and15 (x : Int) (h0 : 0 ≤ x) (h1 : x < 18446744073709551616) : bits .and .u64 x 15 = x % 16 := bits_mask .u64 64 (by decide) (fun n h0 h1 => by rw [IntKind.wrap_u64]; omega) 4 (by decide) x h0 (by omega)
theorem Tab.below {w w' : World} (h : Tab w) (hb : Below w.heap.size w w') : Tab w' := pw_cell_below hb h
/-- A digit's byte, small letters. -/
def dgl (x : Int) : Int := if x < 10 then 48 + x else 87 + x
theorem ix0 (W : World) : (Instr.index 9 (.string ⟨#[48, 49, 50, 51, 52, 53, 54, 55, 56, 57, 97, 98, 99, 100, 101, 102, 103, 104, 105, 106, 107, 108, 109, 110, 111, 112, 113, 114, 115, 116, 117, 118, 119, 120, 121, 122]⟩) (.int .u64 0)).run Tryd.prog W = .ok (.int .u8 48) W := by kernel_rfl
theorem ix1 (W : World) : (Instr.index 9 (.string ⟨#[48, 49, 50, 51, 52, 53, 54, 55, 56, 57, 97, 98, 99, 100, 101, 102, 103, 104, 105, 106, 107, 108, 109, 110, 111, 112, 113, 114, 115, 116, 117, 118, 119, 120, 121, 122]⟩) (.int .u64 1)).run Tryd.prog W = .ok (.int .u8 49) W := by kernel_rfl
theorem ix2 (W : World) : (Instr.index 9 (.string ⟨#[48, 49, 50, 51, 52, 53, 54, 55, 56, 57, 97, 98, 99, 100, 101, 102, 103, 104, 105, 106, 107, 108, 109, 110, 111, 112, 113, 114, 115, 116, 117, 118, 119, 120, 121, 122]⟩) (.int .u64 2)).run Tryd.prog W = .ok (.int .u8 50) W := by kernel_rfl
theorem ix3 (W : World) : (Instr.index 9 (.string ⟨#[48, 49, 50, 51, 52, 53, 54, 55, 56, 57, 97, 98, 99, 100, 101, 102, 103, 104, 105, 106, 107, 108, 109, 110, 111, 112, 113, 114, 115, 116, 117, 118, 119, 120, 121, 122]⟩) (.int .u64 3)).run Tryd.prog W = .ok (.int .u8 51) W := by kernel_rfl
theorem ix4 (W : World) : (Instr.index 9 (.string ⟨#[48, 49, 50, 51, 52, 53, 54, 55, 56, 57, 97, 98, 99, 100, 101, 102, 103, 104, 105, 106, 107, 108, 109, 110, 111, 112, 113, 114, 115, 116, 117, 118, 119, 120, 121, 122]⟩) (.int .u64 4)).run Tryd.prog W = .ok (.int .u8 52) W := by kernel_rfl
theorem ix5 (W : World) : (Instr.index 9 (.string ⟨#[48, 49, 50, 51, 52, 53, 54, 55, 56, 57, 97, 98, 99, 100, 101, 102, 103, 104, 105, 106, 107, 108, 109, 110, 111, 112, 113, 114, 115, 116, 117, 118, 119, 120, 121, 122]⟩) (.int .u64 5)).run Tryd.prog W = .ok (.int .u8 53) W := by kernel_rfl
theorem ix6 (W : World) : (Instr.index 9 (.string ⟨#[48, 49, 50, 51, 52, 53, 54, 55, 56, 57, 97, 98, 99, 100, 101, 102, 103, 104, 105, 106, 107, 108, 109, 110, 111, 112, 113, 114, 115, 116, 117, 118, 119, 120, 121, 122]⟩) (.int .u64 6)).run Tryd.prog W = .ok (.int .u8 54) W := by kernel_rfl
theorem ix7 (W : World) : (Instr.index 9 (.string ⟨#[48, 49, 50, 51, 52, 53, 54, 55, 56, 57, 97, 98, 99, 100, 101, 102, 103, 104, 105, 106, 107, 108, 109, 110, 111, 112, 113, 114, 115, 116, 117, 118, 119, 120, 121, 122]⟩) (.int .u64 7)).run Tryd.prog W = .ok (.int .u8 55) W := by kernel_rfl
theorem ix8 (W : World) : (Instr.index 9 (.string ⟨#[48, 49, 50, 51, 52, 53, 54, 55, 56, 57, 97, 98, 99, 100, 101, 102, 103, 104, 105, 106, 107, 108, 109, 110, 111, 112, 113, 114, 115, 116, 117, 118, 119, 120, 121, 122]⟩) (.int .u64 8)).run Tryd.prog W = .ok (.int .u8 56) W := by kernel_rfl
theorem ix9 (W : World) : (Instr.index 9 (.string ⟨#[48, 49, 50, 51, 52, 53, 54, 55, 56, 57, 97, 98, 99, 100, 101, 102, 103, 104, 105, 106, 107, 108, 109, 110, 111, 112, 113, 114, 115, 116, 117, 118, 119, 120, 121, 122]⟩) (.int .u64 9)).run Tryd.prog W = .ok (.int .u8 57) W := by kernel_rfl
theorem ix10 (W : World) : (Instr.index 9 (.string ⟨#[48, 49, 50, 51, 52, 53, 54, 55, 56, 57, 97, 98, 99, 100, 101, 102, 103, 104, 105, 106, 107, 108, 109, 110, 111, 112, 113, 114, 115, 116, 117, 118, 119, 120, 121, 122]⟩) (.int .u64 10)).run Tryd.prog W = .ok (.int .u8 97) W := by kernel_rfl
theorem ix11 (W : World) : (Instr.index 9 (.string ⟨#[48, 49, 50, 51, 52, 53, 54, 55, 56, 57, 97, 98, 99, 100, 101, 102, 103, 104, 105, 106, 107, 108, 109, 110, 111, 112, 113, 114, 115, 116, 117, 118, 119, 120, 121, 122]⟩) (.int .u64 11)).run Tryd.prog W = .ok (.int .u8 98) W := by kernel_rfl
theorem ix12 (W : World) : (Instr.index 9 (.string ⟨#[48, 49, 50, 51, 52, 53, 54, 55, 56, 57, 97, 98, 99, 100, 101, 102, 103, 104, 105, 106, 107, 108, 109, 110, 111, 112, 113, 114, 115, 116, 117, 118, 119, 120, 121, 122]⟩) (.int .u64 12)).run Tryd.prog W = .ok (.int .u8 99) W := by kernel_rfl
theorem ix13 (W : World) : (Instr.index 9 (.string ⟨#[48, 49, 50, 51, 52, 53, 54, 55, 56, 57, 97, 98, 99, 100, 101, 102, 103, 104, 105, 106, 107, 108, 109, 110, 111, 112, 113, 114, 115, 116, 117, 118, 119, 120, 121, 122]⟩) (.int .u64 13)).run Tryd.prog W = .ok (.int .u8 100) W := by kernel_rfl
theorem ix14 (W : World) : (Instr.index 9 (.string ⟨#[48, 49, 50, 51, 52, 53, 54, 55, 56, 57, 97, 98, 99, 100, 101, 102, 103, 104, 105, 106, 107, 108, 109, 110, 111, 112, 113, 114, 115, 116, 117, 118, 119, 120, 121, 122]⟩) (.int .u64 14)).run Tryd.prog W = .ok (.int .u8 101) W := by kernel_rfl
theorem ix15 (W : World) : (Instr.index 9 (.string ⟨#[48, 49, 50, 51, 52, 53, 54, 55, 56, 57, 97, 98, 99, 100, 101, 102, 103, 104, 105, 106, 107, 108, 109, 110, 111, 112, 113, 114, 115, 116, 117, 118, 119, 120, 121, 122]⟩) (.int .u64 15)).run Tryd.prog W = .ok (.int .u8 102) W := by kernel_rfl
theorem index_dgl (x : Int) (W : World) (h0 : 0 ≤ x) (h1 : x < 16) : (Instr.index 9 (.string ⟨#[48, 49, 50, 51, 52, 53, 54, 55, 56, 57, 97, 98, 99, 100, 101, 102, 103, 104, 105, 106, 107, 108, 109, 110, 111, 112, 113, 114, 115, 116, 117, 118, 119, 120, 121, 122]⟩) (.int .u64 x)).run Tryd.prog W = .ok (.int .u8 (dgl x)) W := by
  obtain ⟨j, rfl⟩ := Int.eq_ofNat_of_zero_le h0
  have hj : j < 16 := by omega
  match j, hj with
  | 0, _ => exact ix0 W
  | 1, _ => exact ix1 W
  | 2, _ => exact ix2 W
  | 3, _ => exact ix3 W
  | 4, _ => exact ix4 W
  | 5, _ => exact ix5 W
  | 6, _ => exact ix6 W
  | 7, _ => exact ix7 W
  | 8, _ => exact ix8 W
  | 9, _ => exact ix9 W
  | 10, _ => exact ix10 W
  | 11, _ => exact ix11 W
  | 12, _ => exact ix12 W
  | 13, _ => exact ix13 W
  | 14, _ => exact ix14 W
  | 15, _ => exact ix15 W
/-- A number's digits, ahead of those that stand already. -/
def hexd : Nat → Int → List Int → List Int
  | 0, _, acc => acc
  | k + 1, u, acc => if 16 ≤ u then hexd k (u / 16) (dgl (u % 16) :: acc) else dgl u :: acc
/-- The last m cells are these digits. -/
def Sfx (cs : Array Value) (m : Nat) (acc : List Int) : Prop := cs.size = 65 ∧ acc.length = m ∧ ∀ j, j < m → cs[65 - m + j]? = some (.int .u8 (acc.getD j 0))
theorem sfx_step {cs : Array Value} {m : Nat} {acc : List Int} (h : Sfx cs m acc) (hm : m < 65) (d : Int) : Sfx (cs.setIfInBounds (64 - m) (.int .u8 d)) (m + 1) (d :: acc) := by
  obtain ⟨h1, h2, h3⟩ := h
  refine ⟨by simpa using h1, by rw [List.length_cons, h2], fun j hj => ?_⟩
  match j with
  | 0 =>
    rw [show 65 - (m + 1) + 0 = 64 - m by omega, Array.getElem?_setIfInBounds_self]
    simp
    omega
  | j + 1 =>
    rw [show 65 - (m + 1) + (j + 1) = 65 - m + j by omega, Array.getElem?_setIfInBounds_ne (by omega), h3 j (by omega)]
    simp
theorem arr_slice (g q n : Nat) (hq : q + n = 65) (hn : 0 < n) (W : World) : (Instr.sliceAt 87 (.pointer (some ⟨g, 0, none⟩)) (some (.int .i64 (q : Int))) none none).run Tryd.prog W = .ok (.slice (some ⟨g, q, none⟩) n n) W := by
  have hA : Tryd.prog.arrayLen 87 = 65 := by kernel_rfl
  have hE : Tryd.prog.elem 87 = 5 := by kernel_rfl
  have h := run_sliceAt_array_l (P := Tryd.prog) W 87 ⟨g, 0, none⟩ (by kernel_rfl) .i64 (q : Int) (by omega) (by rw [hA]; omega)
  rw [h, hA, hE, Tryd.sizeOf5]
  simp only [Result.andThen, slicedAt, Int.toNat_natCast]
  rw [if_neg (by omega), Nat.mul_one, add_plain, show 65 - q = n by omega]
set_option maxHeartbeats 4000000 in
set_option maxRecDepth 100000 in
theorem fbC (u : Nat) (hu : u < 16777216) (w : World) (hT : Tab w) :
    Calls Tryd.prog 58 #[.slice none 0 0, .int .u64 u, .int .i64 16, .bool false, .bool false] w fun e w' => e = .returned (.tuple #[.slice none 0 0, .string (strOfNums (hexd 6 u []))]) ∧ Below w.heap.size w w' := by
  have HT := Lib.hid hT
  clear hT
  go_enter Tryd.func58, Tryd.ntmps58
  go_wp2_with fail
  refine (pow2C _).mono ?_
  rintro e w1 ⟨rfl, rfl⟩
  go_wp2_with fail
  refine (tzC _ (HT.out.below (below_alloc (Below.refl _ _) _))).mono ?_
  rintro e w1 ⟨rfl, rfl⟩
  go_wp2_with fail
  have HB0 : Hid (Below w.heap.size w (w.alloc (.cells Tryd.zeroCells87 87))) := Lib.hid (below_alloc (Below.refl _ _) _)
  have HK0 : Hid ((w.alloc (.cells Tryd.zeroCells87 87)).heap[w.heap.size]? = some (.cells Tryd.zeroCells87 87 (0, 0))) := Lib.hid (heap_alloc_new _ _)
  have HS0 : Hid (Sfx Tryd.zeroCells87 0 []) := Lib.hid ⟨by kernel_rfl, rfl, fun j hj => by omega⟩
  obtain ⟨g, hg⟩ : ∃ g, g = w.heap.size := ⟨_, rfl⟩
  rw [← hg] at HK0 ⊢
  have HG := Lib.hid hg
  clear hg
  generalize w.alloc (.cells Tryd.zeroCells87 87) = w0 at *
  go_loopw [1, 13] (fun v i wr => ∃ (m : Nat) (u' : Nat) (acc : List Int) (cs : Array Value), v = .int .u64 (u' : Int) ∧ i = .int .i64 (65 - (m : Int)) ∧ m ≤ 5 ∧ u' < 16 ^ (6 - m) ∧ Hid (hexd (6 - m) u' acc = hexd 6 u []) ∧ Hid (wr.heap[g]? = some (.cells cs 87 (0, 0))) ∧ Hid (Sfx cs m acc) ∧ Hid (Below w.heap.size w wr)) (fun v _ _ => (intOf v).toNat)
  case atStart => exact ⟨0, u, [], Tryd.zeroCells87, rfl, rfl, by omega, hu, Lib.hid rfl, HK0, HS0, HB0⟩
  case round =>
    obtain ⟨m, u', acc, cs, rfl, rfl, hm, hu', HH, HK, HS, HB⟩ := hrel
    clear HK0 HS0 HB0
    by_cases h16 : 16 ≤ u'
    · have hm5 : m ≤ 4 := by
        rcases Nat.lt_or_ge m 5 with h | h
        · omega
        · obtain rfl : m = 5 := by omega
          simp at hu'
          omega
      have ha := and15 (u' : Int) (by omega) (by
        have : u' < 16 ^ 6 := Nat.lt_of_lt_of_le hu' (Nat.pow_le_pow_right (by decide) (by omega))
        omega)
      have hix := fun W => index_dgl ((u' : Int) % 16) W (by omega) (by omega)
      obtain ⟨q, hq⟩ : ∃ q : Nat, q = 64 - m := ⟨_, rfl⟩
      have hqi : (65 : Int) - (m : Int) - 1 = (q : Int) := by omega
      obtain ⟨x, hx⟩ : ∃ x, cs[q]? = some x := ⟨cs[q]'(by have := HS.out.1; omega), Array.getElem?_eq_getElem _⟩
      have hcell : wr.cell? ⟨g, q, none⟩ = some x := (blk_cell HK.out q).trans hx
      have hfr : wr.frozen? ⟨g, q, none⟩ = false := blk_frozen HK.out q
      have HU : Hid (u' / 16 < 16 ^ (6 - (m + 1))) := Lib.hid (by
        have : 16 ^ (6 - m) = 16 ^ (6 - (m + 1)) * 16 := by rw [show 6 - m = (6 - (m + 1)) + 1 by omega, Nat.pow_succ]
        rw [this] at hu'
        exact Nat.div_lt_of_lt_mul (by omega))
      have HH2 : Hid (hexd (6 - (m + 1)) ((u' / 16 : Nat) : Int) (dgl ((u' : Int) % 16) :: acc) = hexd 6 u []) := Lib.hid (by
        rw [← HH.out, show 6 - m = (6 - (m + 1)) + 1 by omega, hexd, if_pos (by omega)]
        congr 1)
      have HS2 := Lib.hid (sfx_step HS.out (by omega) (dgl ((u' : Int) % 16)))
      have HK2 := Lib.hid (blk_set HK.out q (.int .u8 (dgl ((u' : Int) % 16))))
      rw [← hq] at HS2
      have q0 : (0 : Int) ≤ (q : Int) := by omega
      have q1 : (q : Int) < 65 := by omega
      have HQI := Lib.hid hqi
      clear hqi hq hx
      go_upto_region 13 with fail
      rw [HQI.out]
      go_wp2_with fail
      go_roundw
      case rel => exact ⟨m + 1, u' / 16, _, _, by go_num, by have := HQI.out; congr 1; omega, by omega, HU.out, HH2, HK2, HS2, Lib.hid (HB.out.setCell (by rw [HG.out]; exact Nat.le_refl _) _)⟩
      case measure => simp [intOf]; omega
    · have hix := fun W => index_dgl (u' : Int) W (by omega) (by omega)
      obtain ⟨q, hq⟩ : ∃ q : Nat, q = 64 - m := ⟨_, rfl⟩
      have hqi : (65 : Int) - (m : Int) - 1 = (q : Int) := by omega
      obtain ⟨x, hx⟩ : ∃ x, cs[q]? = some x := ⟨cs[q]'(by have := HS.out.1; omega), Array.getElem?_eq_getElem _⟩
      have hcell : wr.cell? ⟨g, q, none⟩ = some x := (blk_cell HK.out q).trans hx
      have hfr : wr.frozen? ⟨g, q, none⟩ = false := blk_frozen HK.out q
      have HH2 : Hid (dgl (u' : Int) :: acc = hexd 6 u []) := Lib.hid (by
        rw [← HH.out, show 6 - m = (6 - (m + 1)) + 1 by omega, hexd, if_neg (by omega)])
      have HS2 := Lib.hid (sfx_step HS.out (by omega) (dgl (u' : Int)))
      have HK2 := Lib.hid (blk_set HK.out q (.int .u8 (dgl (u' : Int))))
      rw [← hq] at HS2
      have q0 : (0 : Int) ≤ (q : Int) := by omega
      have q1 : (q : Int) < 65 := by omega
      have HQI := Lib.hid hqi
      have HQQ := Lib.hid hq
      clear hqi hq hx
      go_upto_region 16 with fail
      rw [HQI.out]
      have hql : q + (m + 1) = 65 := by have := HQQ.out; omega
      have hsl : ∀ W : World, (Instr.sliceAt 87 (.pointer (some ⟨g, 0, none⟩)) (some (.int .i64 (q : Int))) none none).run Tryd.prog W = .ok (.slice (some ⟨g, q, none⟩) (m + 1) (m + 1)) W := arr_slice g q (m + 1) hql (by omega)
      have hcv : (convert 46 9 (.slice (some ⟨g, q, none⟩) (m + 1) (m + 1))).run Tryd.prog (wr.setCell ⟨g, q, none⟩ (.int .u8 (dgl (u' : Int)))) = .ok (.string (strOfNums (hexd 6 u []))) (wr.setCell ⟨g, q, none⟩ (.int .u8 (dgl (u' : Int)))) := by
        rw [← HH2.out]
        refine run_convert_bytes_arg _ 46 5 Tryd.underlying46 Tryd.underlying5 g q (m + 1) (m + 1) (dgl (u' : Int) :: acc) HS2.out.2.1 (fun i hi => ?_) 9 Tryd.underlying9
        have h1 := HS2.out.2.2 i hi
        rw [show 65 - (m + 1) + i = q + i by omega] at h1
        exact (blk_cell HK2.out (q + i)).trans h1
      have HQL := Lib.hid hql
      clear hql
      go_upto_region 30 with fail
      go_wp2_with fail
      go_ret2
      exact ⟨rfl, HB.out.setCell (by rw [HG.out]; exact Nat.le_refl _) _⟩
end Go.Proofs.YtegogeglofikhaaDoor.Uc
