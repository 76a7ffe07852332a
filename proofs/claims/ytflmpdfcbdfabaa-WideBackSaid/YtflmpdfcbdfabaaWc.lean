/- The two orders of bytes: how a unit's number is made of its bytes, and the other way round; walked. -/
import Derived.Test.YtflmpdfcbdfabaaWd
import Derived.Test.YtflmpdfcbdfabaaPWideGetsx2
import Derived.Laws.BitsLemmas
import Derived.Deep.QuietTactic
import Derived.BigQuiet
import Derived.Lib.Hide
import Derived.OpenShut
namespace Go.Proofs.Ytflmpdfcbdfabaa.Wd
open Go.RowKit Go.Proofs.YtflmpdfcbdfabaaW.PrintWords Go.Proofs.YtflmpdfcbdfabaaW.PrintLast Go.Proofs.YtflmpdfcbdfabaaW.PrintMore
theorem info5 : (Try.prog.info? 5).map (fun i => (i.zero, i.size, i.bytes)) = some (some (.int .u8 0), 1, 1) := by kernel_rfl
theorem on {w W W1 : World} (h : Below w.heap.size w W) (k : Below W.heap.size W W1) : Below w.heap.size w W1 := below_then h h.size k
theorem rd_byte {l : List Int} (hb : ∀ x ∈ l, Byte x) (i : Nat) (hi : i < l.length) : Byte (rd l (i : Int)) := by
  unfold rd
  rw [Int.toNat_natCast, List.getD_eq_getElem?_getD, List.getElem?_eq_getElem hi]
  exact hb _ (List.getElem_mem hi)
theorem take_rd (l : List Int) (i : Nat) (hi : i < l.length) : l.take (i + 1) = l.take i ++ [rd l (i : Int)] := by
  rw [List.take_succ_eq_append_getElem hi]
  unfold rd
  rw [Int.toNat_natCast, List.getD_eq_getElem?_getD, List.getElem?_eq_getElem hi]
  rfl
theorem numB_bd {l : List Int} (hb : ∀ x ∈ l, Byte x) : ∀ i : Nat, i ≤ l.length → 0 ≤ numB (l.take i) ∧ numB (l.take i) < 256 ^ i
  | 0, _ => by simp [numB]
  | i + 1, hi => by
    have h := numB_bd hb i (by omega)
    have hr := rd_byte hb i (by omega)
    unfold Byte at hr
    rw [take_rd l i (by omega), numB_snoc, Int.pow_succ]
    omega
theorem numL_bd {l : List Int} (hb : ∀ x ∈ l, Byte x) : ∀ i : Nat, i ≤ l.length → 0 ≤ numL (l.take i) ∧ numL (l.take i) < 256 ^ i
  | 0, _ => by simp [numL]
  | i + 1, hi => by
    have h := numL_bd hb i (by omega)
    have hr := rd_byte hb i (by omega)
    unfold Byte at hr
    rw [take_rd l i (by omega), numL_snoc, Int.pow_succ, List.length_take, Nat.min_eq_left (by omega)]
    have h1 := Int.mul_le_mul_of_nonneg_left (show rd l (i : Int) ≤ 255 by omega) (show (0 : Int) ≤ 256 ^ i by exact Int.pow_nonneg (by omega))
    have h2 := Int.mul_nonneg (show (0 : Int) ≤ 256 ^ i by exact Int.pow_nonneg (by omega)) hr.1
    omega
theorem wraps_u32 (n : Int) (h0 : 0 ≤ n) (h1 : n < 2 ^ 32) : IntKind.u32.wrap n = n := by rw [IntKind.wrap_u32]; omega
theorem or_comm (k : IntKind) (x y : Int) : bits .or k x y = bits .or k y x := by
  unfold bits
  simp only []
  rw [BitVec.or_comm]
theorem orB (x c : Int) (h0 : 0 ≤ x) (h1 : x < 16777216) (hc : Byte c) : bits .or .u32 (x * 256 % 4294967296) (c % 4294967296) = x * 256 + c := by
  unfold Byte at hc
  rw [show x * 256 % 4294967296 = x * 256 by omega, show c % 4294967296 = c by omega]
  exact bits_join .u32 32 (by decide) wraps_u32 8 (x * 256) c (by omega) (by omega) (by omega) (by omega) (by omega) (by omega)
theorem orL (x c : Int) (k : Nat) (hk : k < 4) (h0 : 0 ≤ x) (h1 : x < 256 ^ k) (hc : Byte c) : bits .or .u32 x (c % 4294967296 * 2 ^ (8 * k) % 4294967296) = x + 256 ^ k * c := by
  unfold Byte at hc
  rw [or_comm, show c % 4294967296 = c by omega]
  have e : (256 : Int) ^ k = 2 ^ (8 * k) := by rw [Int.pow_mul]; rfl
  rcases (show k = 0 ∨ k = 1 ∨ k = 2 ∨ k = 3 by omega) with rfl | rfl | rfl | rfl
  · have h1' : x < 1 := h1
    rw [show c * 2 ^ (8 * 0) % 4294967296 = c by omega, show (256 : Int) ^ 0 * c = c by omega, bits_join .u32 32 (by decide) wraps_u32 0 c x (by omega) (by omega) (by omega) (by omega) (by omega) (by omega)]
    omega
  · have h1' : x < 256 := h1
    rw [show c * 2 ^ (8 * 1) % 4294967296 = c * 256 by omega, bits_join .u32 32 (by decide) wraps_u32 8 (c * 256) x (by omega) (by omega) (by omega) (by omega) (by omega) (by omega)]
    omega
  · have h1' : x < 65536 := h1
    rw [show c * 2 ^ (8 * 2) % 4294967296 = c * 65536 by omega, bits_join .u32 32 (by decide) wraps_u32 16 (c * 65536) x (by omega) (by omega) (by omega) (by omega) (by omega) (by omega)]
    omega
  · have h1' : x < 16777216 := h1
    rw [show c * 2 ^ (8 * 3) % 4294967296 = c * 16777216 by omega, bits_join .u32 32 (by decide) wraps_u32 24 (c * 16777216) x (by omega) (by omega) (by omega) (by omega) (by omega) (by omega)]
    omega
theorem un_big {n : Int} (hn : n = 2 ∨ n = 4) (x : Int) (k : Nat) (hk : (k : Int) < n) : (un false n x).take (k + 1) = (un false n x).take k ++ [x / 2 ^ (8 * (n - 1 - (k : Int))).toNat % 256] := by
  rcases hn with rfl | rfl
  · rcases (show k = 0 ∨ k = 1 by omega) with rfl | rfl <;> simp [un]
  · rcases (show k = 0 ∨ k = 1 ∨ k = 2 ∨ k = 3 by omega) with rfl | rfl | rfl | rfl <;> simp [un]
theorem un_low {n : Int} (hn : n = 2 ∨ n = 4) (x : Int) (k : Nat) (hk : (k : Int) < n) : (un true n x).take (k + 1) = (un true n x).take k ++ [x / 2 ^ (8 * k) % 256] := by
  rcases hn with rfl | rfl
  · rcases (show k = 0 ∨ k = 1 by omega) with rfl | rfl <;> simp [un]
  · rcases (show k = 0 ∨ k = 1 ∨ k = 2 ∨ k = 3 by omega) with rfl | rfl | rfl | rfl <;> simp [un]
set_option maxRecDepth 100000 in
theorem bigN (A : Option Addr) (c : Nat) (l : List Int) (w : World) (hC : Kd.C (Kd.int .u8) w A l.length l) (hb : ∀ x ∈ l, Byte x) (hl : l.length ≤ 4) :
    Calls Try.prog 34 #[.slice A l.length c] w fun e w' => e = .returned (.int .u32 (numB l)) ∧ w' = w := by
  have HC := Lib.hid hC
  have Hb := Lib.hid hb
  clear hC hb
  go_enter Try.func34, Try.ntmps34
  go_wp2_with fail
  go_loop [2, 7] (fun n i => ∃ k : Nat, k ≤ l.length ∧ i = .int .i64 k ∧ n = .int .u32 (numB (l.take k))) (fun _ i => l.length - (intOf i).toNat)
  case atStart => exact ⟨0, Nat.zero_le _, rfl, rfl⟩
  case round =>
    obtain ⟨k, hk, rfl, rfl⟩ := hrel
    by_cases hlt : k < l.length
    · obtain ⟨ad, rfl, hx⟩ := Kd.at_int HC.out (k : Int) (by omega) (by omega)
      have hr := rd_byte Hb.out k hlt
      have hn := numB_bd Hb.out k hk
      have h256 : (256 : Int) ^ k ≤ 16777216 := by
        rcases (show k = 0 ∨ k = 1 ∨ k = 2 ∨ k = 3 by omega) with h | h | h | h <;> rw [h] <;> decide
      have HO := Lib.hid (orB (numB (l.take k)) (rd l (k : Int)) hn.1 (by omega) hr)
      have HT := Lib.hid (show numB (l.take (k + 1)) = numB (l.take k) * 256 + rd l (k : Int) by rw [take_rd l k hlt, numB_snoc])
      rw [Int.toNat_natCast] at hx
      clear hn h256
      generalize rd l (k : Int) = x at *
      go_wp2_with fail
      go_round
      case rel => exact ⟨k + 1, by omega, by go_num, by rw [HO.out, HT.out]⟩
      case measure => simp [intOf]; omega
    · go_wp2_with fail
      go_ret
      exact ⟨by rw [List.take_of_length_le (by omega)]; rfl, rfl⟩
set_option maxRecDepth 100000 in
theorem littleN (A : Option Addr) (c : Nat) (l : List Int) (w : World) (hC : Kd.C (Kd.int .u8) w A l.length l) (hb : ∀ x ∈ l, Byte x) (hl : l.length ≤ 4) :
    Calls Try.prog 36 #[.slice A l.length c] w fun e w' => e = .returned (.int .u32 (numL l)) ∧ w' = w := by
  have HC := Lib.hid hC
  have Hb := Lib.hid hb
  clear hC hb
  go_enter Try.func36, Try.ntmps36
  go_wp2_with fail
  go_loop [2, 7] (fun n i => ∃ k : Nat, k ≤ l.length ∧ i = .int .i64 k ∧ n = .int .u32 (numL (l.take k))) (fun _ i => l.length - (intOf i).toNat)
  case atStart => exact ⟨0, Nat.zero_le _, rfl, rfl⟩
  case round =>
    obtain ⟨k, hk, rfl, rfl⟩ := hrel
    by_cases hlt : k < l.length
    · obtain ⟨ad, rfl, hx⟩ := Kd.at_int HC.out (k : Int) (by omega) (by omega)
      have hr := rd_byte Hb.out k hlt
      have hn := numL_bd Hb.out k hk
      have HO := Lib.hid (orL (numL (l.take k)) (rd l (k : Int)) k (by omega) hn.1 hn.2 hr)
      have HT := Lib.hid (show numL (l.take (k + 1)) = numL (l.take k) + 256 ^ k * rd l (k : Int) by rw [take_rd l k hlt, numL_snoc, List.length_take, Nat.min_eq_left hk])
      clear hn
      rw [Int.toNat_natCast] at hx
      generalize rd l (k : Int) = x at *
      go_wp2_with fail
      go_round
      case rel => exact ⟨k + 1, by omega, by go_num, by rw [HO.out, HT.out]⟩
      case measure => simp [intOf]; omega
    · go_wp2_with fail
      go_ret
      exact ⟨by rw [List.take_of_length_le (by omega)]; rfl, rfl⟩
theorem lit_reads (W : World) (l : List Int) (hl : l.length ≤ 1000) : ReadsInt (W.alloc (.cells (nums .u8 l).toArray 5)) .u8 (some ⟨W.heap.size, 0, none⟩) l.length l := by
  obtain ⟨A, c, e, h⟩ := own_reads (own_lit W 0 5 .u8 l (Nat.zero_le _) (by omega))
  cases e
  exact h
theorem own_eq {W : World} {b : Nat} {A : Option Addr} {c : Nat} {p q : List Int} (h : W.ownsRow b 5 1 (.slice A p.length c) p.length (nums .u8 p)) (e : p = q) : W.ownsRow b 5 1 (.slice A p.length c) q.length (nums .u8 q) := by
  subst e
  exact h
def BytesEnd (w : World) (l : List Int) (e : Ending) (w' : World) : Prop := ∃ v, e = .returned v ∧ w'.ownsRow w.heap.size 5 1 v l.length (nums .u8 l) ∧ Below w.heap.size w w'
set_option maxRecDepth 100000 in
theorem bigS (n x : Int) (w : World) (hn : n = 2 ∨ n = 4) : Calls Try.prog 35 #[.int .u32 x, .int .i64 n] w (BytesEnd w (un false n x)) := by
  have HL := Lib.hid (un_len false hn x)
  have hn4 : 2 ≤ n ∧ n ≤ 4 := by omega
  go_enter Try.func35, Try.ntmps35
  go_wp2_with fail
  go_loopw [4, 7] (fun b i wr => ∃ k : Nat, (k : Int) ≤ n ∧ i = .int .i64 k ∧ wr.ownsRow w.heap.size 5 1 b ((un false n x).take k).length (nums .u8 ((un false n x).take k)) ∧ Below w.heap.size w wr) (fun _ i _ => (n - intOf i).toNat)
  case atStart => exact ⟨0, by omega, rfl, own_nil _ _ _ _, Below.refl _ _⟩
  case round =>
    obtain ⟨k, hk, rfl, HO0, HB0⟩ := hrel
    obtain ⟨A, c, rfl, HR0⟩ := own_reads HO0
    have HB := Lib.hid HB0
    have HR := Lib.hid HR0
    have HO := Lib.hid HO0
    clear HO0 HB0 HR0
    by_cases hlt : (k : Int) < n
    · have HT := Lib.hid (un_big hn x k hlt)
      have hl4 : ((un false n x).take k).length ≤ 4 := by have := HL.out; rw [List.length_take]; omega
      generalize (un false n x).take k = p at *
      go_wp2_with (at_builtin; refine print_append_row w.heap.size rfl (.tmp 10) (.tmp 19) 30 5 .u8 1 rfl Try.underlying30 info5 (by omega) (.slice A p.length c) p [x / 2 ^ (8 * (n - 1 - (k : Int))).toNat % 256] (some ⟨wr.heap.size, 0, none⟩) 1 1 rfl rfl (HO.out.alloc _) (lit_reads wr [x / 2 ^ (8 * (n - 1 - (k : Int))).toNat % 256] (by simp)) (below_alloc HB.out _) (by have := HB.out.size; simp; omega) (by simp; omega) ?_; intro v1 w1 hown1 hb1 hg1 hat1; clear hg1 hat1; have HO1 := Lib.hid hown1; have HB1 := Lib.hid hb1; clear hown1 hb1)
      go_roundw
      case rel => exact ⟨k + 1, by omega, by go_num, by rw [HT.out]; exact HO1.out, HB1.out⟩
      case measure => simp [intOf]; omega
    · have HT := Lib.hid (show (un false n x).take k = un false n x from List.take_of_length_le (by have := HL.out; omega))
      generalize (un false n x).take k = p at *
      go_wp2_with fail
      go_ret
      exact ⟨_, rfl, own_eq HO.out HT.out, HB.out⟩
set_option maxRecDepth 100000 in
theorem littleS (n x : Int) (w : World) (hn : n = 2 ∨ n = 4) : Calls Try.prog 37 #[.int .u32 x, .int .i64 n] w (BytesEnd w (un true n x)) := by
  have HL := Lib.hid (un_len true hn x)
  have hn4 : 2 ≤ n ∧ n ≤ 4 := by omega
  go_enter Try.func37, Try.ntmps37
  go_wp2_with fail
  go_loopw [4, 7] (fun b i wr => ∃ k : Nat, (k : Int) ≤ n ∧ i = .int .i64 k ∧ wr.ownsRow w.heap.size 5 1 b ((un true n x).take k).length (nums .u8 ((un true n x).take k)) ∧ Below w.heap.size w wr) (fun _ i _ => (n - intOf i).toNat)
  case atStart => exact ⟨0, by omega, rfl, own_nil _ _ _ _, Below.refl _ _⟩
  case round =>
    obtain ⟨k, hk, rfl, HO0, HB0⟩ := hrel
    obtain ⟨A, c, rfl, HR0⟩ := own_reads HO0
    have HB := Lib.hid HB0
    have HR := Lib.hid HR0
    have HO := Lib.hid HO0
    clear HO0 HB0 HR0
    by_cases hlt : (k : Int) < n
    · have HT := Lib.hid (un_low hn x k hlt)
      have hl4 : ((un true n x).take k).length ≤ 4 := by have := HL.out; rw [List.length_take]; omega
      generalize (un true n x).take k = p at *
      go_wp2_with (at_builtin; refine print_append_row w.heap.size rfl (.tmp 10) (.tmp 16) 30 5 .u8 1 rfl Try.underlying30 info5 (by omega) (.slice A p.length c) p [x / 2 ^ (8 * k) % 256] (some ⟨wr.heap.size, 0, none⟩) 1 1 rfl rfl (HO.out.alloc _) (lit_reads wr [x / 2 ^ (8 * k) % 256] (by simp)) (below_alloc HB.out _) (by have := HB.out.size; simp; omega) (by simp; omega) ?_; intro v1 w1 hown1 hb1 hg1 hat1; clear hg1 hat1; have HO1 := Lib.hid hown1; have HB1 := Lib.hid hb1; clear hown1 hb1)
      go_roundw
      case rel => exact ⟨k + 1, by omega, by go_num, by rw [HT.out]; exact HO1.out, HB1.out⟩
      case measure => simp [intOf]; omega
    · have HT := Lib.hid (show (un true n x).take k = un true n x from List.take_of_length_le (by have := HL.out; omega))
      generalize (un true n x).take k = p at *
      go_wp2_with fail
      go_ret
      exact ⟨_, rfl, own_eq HO.out HT.out, HB.out⟩
end Go.Proofs.Ytflmpdfcbdfabaa.Wd
