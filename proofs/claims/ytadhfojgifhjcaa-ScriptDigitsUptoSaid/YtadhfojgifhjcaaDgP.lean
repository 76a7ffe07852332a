/- The plain laws of ScriptDigits: what the print's functions of digits compute, and that digits read again give the bytes. -/
import Derived.Test.YtadhfojgifhjcaaDgH
import Derived.Test.YtadhfojgifhjcaaDgX
namespace Go.Proofs.Ytadhfojgifhjcaa.Dg
open Go.RowKit Go.Proofs.YtadhfojgifhjcaaW.PrintWords Go.Proofs.YtadhfojgifhjcaaW.PrintLast Go.Proofs.YtadhfojgifhjcaaW.PrintMore
open Go.Proofs.Ytadhfojgifhjcaa.PScriptDigits
set_option linter.unusedVariables false
set_option linter.unusedSimpArgs false
/-- A digit's number, of a byte. -/
def dgv (c : Int) : Int := if 48 ≤ c ∧ c ≤ 57 then c - 48 else if 65 ≤ c ∧ c ≤ 70 then c - 55 else if 97 ≤ c ∧ c ≤ 102 then c - 87 else -1
theorem dgv_bd (c : Int) : -1 ≤ dgv c ∧ dgv c < 16 := by
  unfold dgv
  split
  · omega
  · split
    · omega
    · split <;> omega
theorem digit_f (k : Nat) (c : Int) : script_digit.f (k + 2) c = some (if dgv c < 0 then 0 else dgv c, decide (0 ≤ dgv c)) := by
  unfold script_digit.f dgv
  simp only [script_digit.j0, script_digit.j1]
  by_cases h1 : c ≥ 48
  · by_cases h2 : c ≤ 57
    · simp [h1, h2, show 48 ≤ c by omega]
      omega
    · by_cases h3 : c ≥ 65
      · by_cases h4 : c ≤ 70
        · simp [h1, h2, h3, h4, show 48 ≤ c by omega, show 65 ≤ c by omega]
          omega
        · by_cases h5 : c ≥ 97
          · by_cases h6 : c ≤ 102
            · simp [h1, h2, h3, h4, h5, h6, show 48 ≤ c by omega, show 65 ≤ c by omega, show 97 ≤ c by omega]
              omega
            · simp [h1, h2, h3, h4, h5, h6]
          · simp [h1, h2, h3, h4, h5, show ¬ 97 ≤ c by omega]
      · simp [h1, h2, h3, show ¬ 65 ≤ c by omega, show ¬ 97 ≤ c by omega]
  · simp [h1, show ¬ 48 ≤ c by omega, show ¬ 65 ≤ c by omega, show ¬ 97 ≤ c by omega]
theorem ref_digit_f (k : Nat) (c : Int) : dragomanref26_digit.f (k + 2) c = some (dgv c) := by
  unfold dragomanref26_digit.f dgv
  simp only [dragomanref26_digit.j0, dragomanref26_digit.j1]
  by_cases h1 : c ≥ 48
  · by_cases h2 : c ≤ 57
    · simp [h1, h2, show 48 ≤ c by omega]
      omega
    · by_cases h3 : c ≥ 65
      · by_cases h4 : c ≤ 70
        · simp [h1, h2, h3, h4, show 48 ≤ c by omega, show 65 ≤ c by omega]
          omega
        · by_cases h5 : c ≥ 97
          · by_cases h6 : c ≤ 102
            · simp [h1, h2, h3, h4, h5, h6, show 48 ≤ c by omega, show 65 ≤ c by omega, show 97 ≤ c by omega]
              omega
            · simp [h1, h2, h3, h4, h5, h6]
          · simp [h1, h2, h3, h4, h5, show ¬ 97 ≤ c by omega]
      · simp [h1, h2, h3, show ¬ 65 ≤ c by omega, show ¬ 97 ≤ c by omega]
  · simp [h1, show ¬ 48 ≤ c by omega, show ¬ 65 ≤ c by omega, show ¬ 97 ≤ c by omega]
theorem or_all : ∀ a : Fin 16, ∀ b : Fin 16, bits .or .u8 (((a.val : Int) * 16) % 256) (b.val : Int) = (a.val : Int) * 16 + (b.val : Int) := by decide +kernel
theorem or_dg (a b : Int) (ha : 0 ≤ a ∧ a < 16) (hb : 0 ≤ b ∧ b < 16) : bits .or .u8 ((a * 16) % 256) b = a * 16 + b := by
  obtain ⟨i, rfl⟩ := Int.eq_ofNat_of_zero_le ha.1
  obtain ⟨j, rfl⟩ := Int.eq_ofNat_of_zero_le hb.1
  exact or_all ⟨i, by omega⟩ ⟨j, by omega⟩
theorem wrap_id (x : Int) (h0 : 0 ≤ x) (h1 : x < 1000000000) : wrap64 x = x := by
  unfold wrap64
  omega
/-- Both readings of an even text are the same, from an even place on. -/
theorem both (s : ByteArray) (n : Nat) : ∀ (m i k : Nat) (acc : List Int), s.size = 2 * n → n ≤ 8388608 → i + m = n → acc.length = i → m + 3 ≤ k →
    ∃ r, script_Bytes.l0 k s acc (2 * (i : Int)) = some r ∧ dragomanref26_Bytes.l0 k s acc (2 * (i : Int)) = some r := by
  intro m
  induction m with
  | zero =>
    intro i k acc hs hn hi ha hk
    obtain ⟨j, rfl⟩ : ∃ j, k = j + 1 := ⟨k - 1, by omega⟩
    refine ⟨(acc, true), ?_, ?_⟩
    · simp only [script_Bytes.l0]
      rw [if_neg (by omega)]
    · simp only [dragomanref26_Bytes.l0]
      rw [if_neg (by omega)]
  | succ m ih =>
    intro i k acc hs hn hi ha hk
    obtain ⟨j, rfl⟩ : ∃ j, k = j + 2 + 1 := ⟨k - 3, by omega⟩
    rw [script_Bytes.l0, dragomanref26_Bytes.l0]
    have w1 : wrap64 (2 * (i : Int) + 1) = 2 * (i : Int) + 1 := wrap_id _ (by omega) (by omega)
    have w2 : wrap64 (2 * (i : Int) + 2) = 2 * ((i + 1 : Nat) : Int) := by rw [wrap_id _ (by omega) (by omega)]; omega
    rw [if_pos (show 2 * (i : Int) < (s.size : Int) by omega), if_pos (show 0 ≤ 2 * (i : Int) by omega), if_pos (show 2 * (i : Int) < (s.size : Int) by omega), if_pos (show 0 ≤ 2 * (i : Int) by omega), w1, w2, digit_f, digit_f, ref_digit_f, ref_digit_f]
    simp only [Option.bind_some]
    rw [if_pos (show 0 ≤ 2 * (i : Int) + 1 by omega), if_pos (show 2 * (i : Int) + 1 < (s.size : Int) by omega), if_pos (show 0 ≤ 2 * (i : Int) + 1 by omega), if_pos (show 2 * (i : Int) + 1 < (s.size : Int) by omega)]
    obtain ⟨a0, a1⟩ := dgv_bd (bt s (2 * (i : Int)))
    obtain ⟨b0, b1⟩ := dgv_bd (bt s (2 * (i : Int) + 1))
    generalize dgv (bt s (2 * (i : Int))) = a at *
    generalize dgv (bt s (2 * (i : Int) + 1)) = b at *
    by_cases ha0 : a < 0
    · rw [if_neg (show ¬ (decide (0 ≤ a) = true) by simp; omega), if_pos ha0]
      exact ⟨_, rfl, rfl⟩
    · rw [if_neg ha0, if_neg ha0, if_pos (by simp; omega)]
      by_cases hb0 : b < 0
      · rw [if_neg (show ¬ (decide (0 ≤ b) = true) by simp; omega), if_pos hb0]
        exact ⟨_, rfl, rfl⟩
      · rw [if_neg hb0, if_neg hb0, if_pos (by simp; omega), if_pos (by omega), if_pos (by omega), or_dg a b ⟨by omega, a1⟩ ⟨by omega, b1⟩,
          wrap_id (16 * a) (by omega) (by omega), wrap_id (16 * a + b) (by omega) (by omega), show (16 * a + b) % 256 = a * 16 + b by omega]
        exact ih (i + 1) (j + 2) (acc ++ [a * 16 + b]) hs hn (by omega) (by simp [ha]) (by omega)
theorem both_f (s : ByteArray) (hs : s.size ≤ 16777216) : ∃ k r, script_Bytes.f k s = some r ∧ dragomanref26_Bytes.f k s = some r := by
  refine ⟨s.size + 10, ?_⟩
  unfold script_Bytes.f dragomanref26_Bytes.f
  by_cases h1 : s.toList = ([45] : List UInt8)
  · rw [if_pos h1, if_pos h1]
    exact ⟨_, rfl, rfl⟩
  · rw [if_neg h1, if_neg h1]
    by_cases h2 : s.toList = ([] : List UInt8)
    · rw [if_pos h2, if_pos h2]
      exact ⟨_, rfl, rfl⟩
    · rw [if_neg h2, if_neg h2]
      by_cases h3 : (s.size : Int) % 2 = 0
      · have he : (((s.size : Int) % 2) != 0) = false := by simp [h3]
        rw [he]
        simp only [script_Bytes.j0, dragomanref26_Bytes.j0, if_neg (show ¬ (false = true) by decide)]
        exact both s (s.size / 2) (s.size / 2) 0 (s.size + 9) [] (by omega) (by omega) (by omega) rfl (by omega)
      · have he : (((s.size : Int) % 2) != 0) = true := by simpa using h3
        rw [he]
        exact ⟨_, rfl, rfl⟩
theorem dgv_hx : ∀ j : Nat, j < 16 → dgv (dgs.getD j 0) = (j : Int) := by decide
theorem dgv_hx' (x : Int) (h0 : 0 ≤ x) (h1 : x < 16) : dgv (hx x) = x := by
  unfold hx
  rw [dgv_hx x.toNat (by omega)]
  omega
theorem str_size (a : List Int) : (strOfNums a).size = a.length := by unfold strOfNums ByteArray.size; simp
theorem bt_str (l : List Int) (h : ∀ x ∈ l, 0 ≤ x ∧ x < 256) (i : Nat) (hi : i < l.length) : bt (strOfNums l) (i : Int) = l.getD i 0 := by
  unfold bt
  rw [dif_pos (by rw [str_size]; simpa using hi)]
  have hb := h _ (List.getElem_mem hi)
  rw [List.getD_eq_getElem?_getD, List.getElem?_eq_getElem hi]
  simp only [Int.toNat_natCast, Option.getD_some]
  unfold strOfNums
  show ((((l.map fun x => UInt8.ofNat x.toNat).toArray)[i]'_).toNat : Int) = _
  simp [UInt8.toNat_ofNat']
  omega
theorem hexl_at (l : List Int) (i : Nat) (hi : i < l.length) : (hexl l).getD (2 * i) 0 = hx (l.getD i 0 / 16) ∧ (hexl l).getD (2 * i + 1) 0 = hx (l.getD i 0 % 16) := by
  induction l generalizing i with
  | nil => simp at hi
  | cons a t ih =>
    cases i with
    | zero => exact ⟨rfl, rfl⟩
    | succ i => exact ih i (by simpa using hi)
/-- The digits of some bytes, read from an even place on. -/
theorem undo (l : List Int) (hb : ∀ x ∈ l, 0 ≤ x ∧ x < 256) (hn : l.length ≤ 8388608) : ∀ (m i k : Nat), i + m = l.length → m + 3 ≤ k → script_Bytes.l0 k (strOfNums (hexl l)) (l.take i) (2 * (i : Int)) = some (l, true) := by
  have hs : (strOfNums (hexl l)).size = 2 * l.length := by rw [str_size, hexl_len]
  intro m
  induction m with
  | zero =>
    intro i k hi hk
    obtain ⟨j, rfl⟩ : ∃ j, k = j + 1 := ⟨k - 1, by omega⟩
    rw [script_Bytes.l0, if_neg (by omega), List.take_of_length_le (by omega)]
  | succ m ih =>
    intro i k hi hk
    obtain ⟨j, rfl⟩ : ∃ j, k = j + 2 + 1 := ⟨k - 3, by omega⟩
    rw [script_Bytes.l0]
    have w1 : wrap64 (2 * (i : Int) + 1) = 2 * (i : Int) + 1 := wrap_id _ (by omega) (by omega)
    have w2 : wrap64 (2 * (i : Int) + 2) = 2 * ((i + 1 : Nat) : Int) := by rw [wrap_id _ (by omega) (by omega)]; omega
    have hx := hb _ (List.getElem_mem (show i < l.length by omega))
    have hg : l.getD i 0 = l[i]'(by omega) := by rw [List.getD_eq_getElem?_getD, List.getElem?_eq_getElem (show i < l.length by omega)]; rfl
    have hat := hexl_at l i (by omega)
    have b1 : bt (strOfNums (hexl l)) (2 * (i : Int)) = Dg.hx (l.getD i 0 / 16) := by
      rw [← hat.1, ← bt_str _ (hexl_bd hb) _ (by rw [hexl_len]; omega)]
      rfl
    have b2 : bt (strOfNums (hexl l)) (2 * (i : Int) + 1) = Dg.hx (l.getD i 0 % 16) := by
      rw [← hat.2, ← bt_str _ (hexl_bd hb) _ (by rw [hexl_len]; omega)]
      rfl
    have ht : l.take i ++ [l.getD i 0] = l.take (i + 1) := by rw [hg, List.take_succ_eq_append_getElem (show i < l.length by omega)]
    rw [← hg] at hx
    clear hat hg
    generalize l.getD i 0 = x at *
    rw [if_pos (show 2 * (i : Int) < ((strOfNums (hexl l)).size : Int) by omega), if_pos (show 0 ≤ 2 * (i : Int) by omega), w1, w2, digit_f, digit_f, b1, b2, dgv_hx' _ (by omega) (by omega), dgv_hx' _ (by omega) (by omega)]
    simp only [Option.bind_some]
    rw [if_pos (show 0 ≤ 2 * (i : Int) + 1 by omega), if_pos (show 2 * (i : Int) + 1 < ((strOfNums (hexl l)).size : Int) by omega), if_pos (show decide (0 ≤ x / 16) = true by simp; omega), if_pos (show decide (0 ≤ x % 16) = true by simp; omega), if_pos (show (l.take i).length < 140737488355328 by simp; omega),
      if_neg (show ¬ x / 16 < 0 by omega), if_neg (show ¬ x % 16 < 0 by omega), or_dg _ _ (by omega) (by omega), show x / 16 * 16 + x % 16 = x by omega]
    rw [ht]
    exact ih (i + 1) (j + 2) (by omega) (by omega)
theorem str_toList (a : List Int) : (strOfNums a).toList = a.map fun x => UInt8.ofNat x.toNat := by unfold strOfNums; simp [ByteArray.toList_eq]
theorem undo_f (l : List Int) (hb : ∀ x ∈ l, 0 ≤ x ∧ x < 256) (hn : l.length ≤ 8388608) : ∃ k, script_Bytes.f k (strOfNums (hexs l)) = some (l, true) := by
  refine ⟨l.length + 10, ?_⟩
  unfold script_Bytes.f hexs
  by_cases h0 : l = []
  · subst h0
    rw [show (if ([] : List Int) = [] then [45] else hexl []) = [45] from rfl, str_toList]
    exact if_pos rfl
  · rw [if_neg h0]
    have hpos : 0 < l.length := by cases l; exact absurd rfl h0; simp
    have hl : (strOfNums (hexl l)).toList.length = 2 * l.length := by rw [str_toList, List.length_map, hexl_len]
    rw [if_neg (by intro h; rw [h] at hl; simp at hl; omega), if_neg (by intro h; rw [h] at hl; simp at hl; omega)]
    have he : ((((strOfNums (hexl l)).size : Int) % 2) != 0) = false := by rw [str_size, hexl_len]; simp
    rw [he]
    simp only [script_Bytes.j0, if_neg (show ¬ (false = true) by decide)]
    exact undo l hb hn l.length 0 (l.length + 9) (by omega) (by omega)
end Go.Proofs.Ytadhfojgifhjcaa.Dg
