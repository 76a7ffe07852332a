/- script.Hex, walked: what it writes of any bytes (fewer than 2^46). No condition. -/
import Derived.Test.YtadhfojgifhjcaaDgB
import Derived.Test.YtadhfojgifhjcaaPScriptDigitsx2
namespace Go.Proofs.Ytadhfojgifhjcaa.Dg
open Go.RowKit Go.Proofs.YtadhfojgifhjcaaW.PrintWords Go.Proofs.YtadhfojgifhjcaaW.PrintLast Go.Proofs.YtadhfojgifhjcaaW.PrintMore
set_option linter.unusedVariables false
def dgs : List Int := [48, 49, 50, 51, 52, 53, 54, 55, 56, 57, 65, 66, 67, 68, 69, 70]
def hx (x : Int) : Int := dgs.getD x.toNat 0
def hexl (l : List Int) : List Int := l.flatMap fun c => [hx (c / 16), hx (c % 16)]
def hexs (l : List Int) : List Int := if l = [] then [45] else hexl l
theorem hexl_snoc (l : List Int) (c : Int) : hexl (l ++ [c]) = hexl l ++ [hx (c / 16), hx (c % 16)] := by simp [hexl]
theorem hexl_len (l : List Int) : (hexl l).length = 2 * l.length := by
  induction l with
  | nil => rfl
  | cons a t ih =>
    show ([hx (a / 16), hx (a % 16)] ++ hexl t).length = _
    rw [List.length_append, ih]
    simp
    omega
theorem hx_bd (x : Int) : 0 ≤ hx x ∧ hx x < 256 := by
  unfold hx
  have h : ∀ j : Nat, 0 ≤ dgs.getD j 0 ∧ dgs.getD j 0 < 256 := by
    intro j
    rcases Nat.lt_or_ge j 16 with h | h
    · have : ∀ j : Nat, j < 16 → 0 ≤ dgs.getD j 0 ∧ dgs.getD j 0 < 256 := by decide
      exact this j h
    · rw [List.getD_eq_getElem?_getD, List.getElem?_eq_none (by simp [dgs]; omega)]
      decide
  exact h _
theorem ix0 (W : World) : (Instr.index 9 (.string ⟨#[48, 49, 50, 51, 52, 53, 54, 55, 56, 57, 65, 66, 67, 68, 69, 70]⟩) (.int .u8 0)).run Try.prog W = .ok (.int .u8 48) W := by kernel_rfl
theorem ix1 (W : World) : (Instr.index 9 (.string ⟨#[48, 49, 50, 51, 52, 53, 54, 55, 56, 57, 65, 66, 67, 68, 69, 70]⟩) (.int .u8 1)).run Try.prog W = .ok (.int .u8 49) W := by kernel_rfl
theorem ix2 (W : World) : (Instr.index 9 (.string ⟨#[48, 49, 50, 51, 52, 53, 54, 55, 56, 57, 65, 66, 67, 68, 69, 70]⟩) (.int .u8 2)).run Try.prog W = .ok (.int .u8 50) W := by kernel_rfl
theorem ix3 (W : World) : (Instr.index 9 (.string ⟨#[48, 49, 50, 51, 52, 53, 54, 55, 56, 57, 65, 66, 67, 68, 69, 70]⟩) (.int .u8 3)).run Try.prog W = .ok (.int .u8 51) W := by kernel_rfl
theorem ix4 (W : World) : (Instr.index 9 (.string ⟨#[48, 49, 50, 51, 52, 53, 54, 55, 56, 57, 65, 66, 67, 68, 69, 70]⟩) (.int .u8 4)).run Try.prog W = .ok (.int .u8 52) W := by kernel_rfl
theorem ix5 (W : World) : (Instr.index 9 (.string ⟨#[48, 49, 50, 51, 52, 53, 54, 55, 56, 57, 65, 66, 67, 68, 69, 70]⟩) (.int .u8 5)).run Try.prog W = .ok (.int .u8 53) W := by kernel_rfl
theorem ix6 (W : World) : (Instr.index 9 (.string ⟨#[48, 49, 50, 51, 52, 53, 54, 55, 56, 57, 65, 66, 67, 68, 69, 70]⟩) (.int .u8 6)).run Try.prog W = .ok (.int .u8 54) W := by kernel_rfl
theorem ix7 (W : World) : (Instr.index 9 (.string ⟨#[48, 49, 50, 51, 52, 53, 54, 55, 56, 57, 65, 66, 67, 68, 69, 70]⟩) (.int .u8 7)).run Try.prog W = .ok (.int .u8 55) W := by kernel_rfl
theorem ix8 (W : World) : (Instr.index 9 (.string ⟨#[48, 49, 50, 51, 52, 53, 54, 55, 56, 57, 65, 66, 67, 68, 69, 70]⟩) (.int .u8 8)).run Try.prog W = .ok (.int .u8 56) W := by kernel_rfl
theorem ix9 (W : World) : (Instr.index 9 (.string ⟨#[48, 49, 50, 51, 52, 53, 54, 55, 56, 57, 65, 66, 67, 68, 69, 70]⟩) (.int .u8 9)).run Try.prog W = .ok (.int .u8 57) W := by kernel_rfl
theorem ix10 (W : World) : (Instr.index 9 (.string ⟨#[48, 49, 50, 51, 52, 53, 54, 55, 56, 57, 65, 66, 67, 68, 69, 70]⟩) (.int .u8 10)).run Try.prog W = .ok (.int .u8 65) W := by kernel_rfl
theorem ix11 (W : World) : (Instr.index 9 (.string ⟨#[48, 49, 50, 51, 52, 53, 54, 55, 56, 57, 65, 66, 67, 68, 69, 70]⟩) (.int .u8 11)).run Try.prog W = .ok (.int .u8 66) W := by kernel_rfl
theorem ix12 (W : World) : (Instr.index 9 (.string ⟨#[48, 49, 50, 51, 52, 53, 54, 55, 56, 57, 65, 66, 67, 68, 69, 70]⟩) (.int .u8 12)).run Try.prog W = .ok (.int .u8 67) W := by kernel_rfl
theorem ix13 (W : World) : (Instr.index 9 (.string ⟨#[48, 49, 50, 51, 52, 53, 54, 55, 56, 57, 65, 66, 67, 68, 69, 70]⟩) (.int .u8 13)).run Try.prog W = .ok (.int .u8 68) W := by kernel_rfl
theorem ix14 (W : World) : (Instr.index 9 (.string ⟨#[48, 49, 50, 51, 52, 53, 54, 55, 56, 57, 65, 66, 67, 68, 69, 70]⟩) (.int .u8 14)).run Try.prog W = .ok (.int .u8 69) W := by kernel_rfl
theorem ix15 (W : World) : (Instr.index 9 (.string ⟨#[48, 49, 50, 51, 52, 53, 54, 55, 56, 57, 65, 66, 67, 68, 69, 70]⟩) (.int .u8 15)).run Try.prog W = .ok (.int .u8 70) W := by kernel_rfl
theorem index_dgs (x : Int) (W : World) (h0 : 0 ≤ x) (h1 : x < 16) : (Instr.index 9 (.string ⟨#[48, 49, 50, 51, 52, 53, 54, 55, 56, 57, 65, 66, 67, 68, 69, 70]⟩) (.int .u8 x)).run Try.prog W = .ok (.int .u8 (hx x)) W := by
  obtain ⟨j, rfl⟩ := Int.eq_ofNat_of_zero_le h0
  have hj : j < 16 := by omega
  match j, hj with
  | 0, _ => exact ix0 W
  | 1, _ => exact ix1 W
  | 2, _ => exact ix2 W
  | 3, _ => exact ix3 W
  | 4, _ => exact ix4 W
  | 5, _ => exact ix5 W
  | 6, _ => exact ix6 W
  | 7, _ => exact ix7 W
  | 8, _ => exact ix8 W
  | 9, _ => exact ix9 W
  | 10, _ => exact ix10 W
  | 11, _ => exact ix11 W
  | 12, _ => exact ix12 W
  | 13, _ => exact ix13 W
  | 14, _ => exact ix14 W
  | 15, _ => exact ix15 W
theorem and15 (x : Int) (h0 : 0 ≤ x) (h1 : x < 256) : bits .and .u8 x 15 = x % 16 := bits_mask .u8 8 (by decide) (fun n h0 h1 => by rw [IntKind.wrap_u8]; omega) 4 (by decide) x h0 (by omega)
theorem take_rd (l : List Int) (i : Nat) (hi : i < l.length) : l.take (i + 1) = l.take i ++ [rd l (i : Int)] := by
  rw [List.take_succ_eq_append_getElem hi]
  unfold rd
  rw [Int.toNat_natCast, List.getD_eq_getElem?_getD, List.getElem?_eq_getElem hi]
  rfl
theorem str_of (xs : List Int) (h : ∀ x ∈ xs, 0 ≤ x ∧ x < 256) : ∃ l : List UInt8, nums .u8 xs = Lib.byteCells l ∧ (⟨l.toArray⟩ : ByteArray) = strOfNums xs := by
  refine ⟨xs.map fun x => UInt8.ofNat x.toNat, ?_, rfl⟩
  unfold nums Lib.byteCells
  rw [List.map_map]
  apply List.map_congr_left
  intro x hx
  have := h x hx
  simp [UInt8.toNat_ofNat']
  omega
theorem rd_bd {l : List Int} (h : ∀ x ∈ l, 0 ≤ x ∧ x < 256) (k : Nat) (hk : k < l.length) : 0 ≤ rd l (k : Int) ∧ rd l (k : Int) < 256 := by
  unfold rd
  rw [Int.toNat_natCast, List.getD_eq_getElem?_getD, List.getElem?_eq_getElem hk]
  exact h _ (List.getElem_mem hk)
theorem hexl_bd {l : List Int} (h : ∀ x ∈ l, 0 ≤ x ∧ x < 256) : ∀ x ∈ hexl l, 0 ≤ x ∧ x < 256 := by
  intro x hx'
  unfold hexl at hx'
  rw [List.mem_flatMap] at hx'
  obtain ⟨c, _, hc⟩ := hx'
  simp only [List.mem_cons, List.not_mem_nil, or_false] at hc
  rcases hc with rfl | rfl <;> exact hx_bd _
theorem nums_len (a : List Int) : (nums .u8 a).length = a.length := by simp [nums]
theorem nums_two (a : List Int) (y z : Int) : nums .u8 (a ++ [y, z]) = nums .u8 a ++ [Value.int .u8 y] ++ [Value.int .u8 z] := by simp [nums]
theorem below_on {B : Nat} {w W W1 : World} (h : Below B w W) (k : Below B W W1) : Below B w W1 := h.trans k
set_option maxHeartbeats 2000000 in
set_option maxRecDepth 100000 in
theorem hexC (A : Option Addr) (c : Nat) (l : List Int) (w : World) (hC : Kd.C (Kd.int .u8) w A l.length l) (hb : ∀ x ∈ l, 0 ≤ x ∧ x < 256) (hlen : l.length ≤ 70368744177663) :
    Calls Try.prog 36 #[.slice A l.length c] w fun e w' => e = .returned (.string (strOfNums (hexs l))) ∧ Below w.heap.size w w' := by
  have HC := Lib.hid hC
  have Hb := Lib.hid hb
  clear hC hb
  by_cases h0 : l.length = 0
  · obtain rfl : l = [] := List.eq_nil_of_length_eq_zero h0
    go_enter Try.func36, Try.ntmps36
    go_wp2_with fail
    go_ret
    exact ⟨rfl, Below.refl _ _⟩
  · have hpos : 0 < l.length := by omega
    have hne : l ≠ [] := fun h => h0 (by rw [h]; rfl)
    have HH : Hid (hexs l = hexl l) := Lib.hid (by unfold hexs; rw [if_neg hne])
    clear h0 hne
    go_enter Try.func36, Try.ntmps36
    go_wp2_with fail
    have hz : ((l.length : Int) == 0) = false := by
      rw [beq_eq_false_iff_ne]
      omega
    rw [hz]
    clear hz
    go_loopw [11] (fun i wr => ∃ k : Nat, k ≤ l.length ∧ i = .int .i64 (k : Int) ∧ Lib.IsBuilder 74 5 w.heap.size w.heap.size (nums .u8 (hexl (l.take k))) wr ∧ Below w.heap.size w wr) (fun i _ => l.length - (intOf i).toNat)
    case atStart => exact ⟨0, Nat.zero_le _, rfl, Lib.fresh_isBuilder 74 5 w, (Below.refl _ _).alloc (Nat.le_refl _) _⟩
    case round =>
      obtain ⟨k, hk, rfl, ho, hb⟩ := hrel
      have HO := Lib.hid ho
      have HB := Lib.hid hb
      clear ho hb
      by_cases hlt : k < l.length
      · obtain ⟨ad, rfl, hcell⟩ := Kd.at_int (Kd.C_below HC.out HB.out) (k : Int) (by omega) (by omega)
        rw [Int.toNat_natCast] at hcell
        have HT := Lib.hid (take_rd l k hlt)
        have HX : Hid (0 ≤ rd l (k : Int) ∧ rd l (k : Int) < 256) := Lib.hid (rd_bd Hb.out k hlt)
        generalize rd l (k : Int) = x at *
        obtain ⟨hx0, hx1⟩ := HX.out
        have hlow := and15 x hx0 hx1
        have hi1 := fun W => index_dgs (x % 16) W (by omega) (by omega)
        have hi2 := fun W => index_dgs (x / 16) W (by omega) (by omega)
        go_wp2_with fail
        have HL : Hid ((nums .u8 (hexl (l.take k))).length + 1 ≤ 140737488355328) := Lib.hid (by rw [nums_len, hexl_len, List.length_take]; omega)
        refine (writeC _ _ _ _ _ HO.out HL.out (Below.size HB.out)).mono ?_
        rintro e w1 ⟨rfl, h1, hb1⟩
        have HO1 := Lib.hid h1
        have HB1 : Hid (Below w.heap.size w w1) := Lib.hid (HB.out.trans hb1)
        clear h1 hb1
        go_wp2_with fail
        have HL1 : Hid ((nums .u8 (hexl (l.take k)) ++ [Value.int .u8 (hx (x / 16))]).length + 1 ≤ 140737488355328) := Lib.hid (by rw [List.length_append, nums_len, hexl_len, List.length_take]; simp; omega)
        refine (writeC _ _ _ _ _ (Or.inr HO1.out) HL1.out (Below.size HB1.out)).mono ?_
        rintro e w2 ⟨rfl, h2, hb2⟩
        have HO2 := Lib.hid h2
        have HB2 : Hid (Below w.heap.size w w2) := Lib.hid (HB1.out.trans hb2)
        clear h2 hb2
        go_wp2_with fail
        go_roundw
        case rel =>
          refine ⟨k + 1, by omega, by go_num, ?_, HB2.out⟩
          have := HO2.out
          rw [HT.out, hexl_snoc, nums_two]
          exact Or.inr this
        case measure => simp [intOf]; omega
      · obtain rfl : k = l.length := by omega
        rw [List.take_length] at HO
        obtain ⟨lb, hl, hs⟩ := str_of (hexl l) (hexl_bd Hb.out)
        rw [hl] at HO
        go_wp2_with fail
        refine (stringC _ _ lb _ HO.out (Below.size HB.out)).mono ?_
        rintro e w1 ⟨rfl, hb1⟩
        have HB1 : Hid (Below w.heap.size w w1) := Lib.hid (HB.out.trans hb1)
        clear hb1
        go_wp2_with fail
        go_ret
        exact ⟨by rw [HH.out, ← hs]; rfl, HB1.out⟩
end Go.Proofs.Ytadhfojgifhjcaa.Dg
