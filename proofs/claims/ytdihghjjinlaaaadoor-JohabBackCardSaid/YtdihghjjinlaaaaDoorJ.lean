/- Johab: the two tables as they lie in memory, and the code of a syllable's parts, walked. -/
import Derived.Test.YtdihghjjinlaaaaDoorPJohabPlainx
import Derived.Deep.QuietTactic
import Derived.BigQuiet
import Derived.Lib.Hide
import Derived.OpenShut
namespace Go.Proofs.YtdihghjjinlaaaaDoor.J
open Go.RowKit Go.Proofs.YtdihghjjinlaaaaDoorW.PrintWords Go.Proofs.YtdihghjjinlaaaaDoorW.PrintLast Go.Proofs.YtdihghjjinlaaaaDoorW.PrintMore
open Go.Proofs.YtdihghjjinlaaaaDoor.PJohabPlain
def mid : List Int := [3, 4, 5, 6, 7, 10, 11, 12, 13, 14, 15, 18, 19, 20, 21, 22, 23, 26, 27, 28, 29]
def las : List Int := [1, 2, 3, 4, 5, 6, 7, 8, 9, 10, 11, 12, 13, 14, 15, 16, 17, 19, 20, 21, 22, 23, 24, 25, 26, 27, 28, 29]
/-- The tables lie where the variables are. -/
structure Tab (W : World) : Prop where
  size : 2 ≤ W.heap.size
  mids : ∀ i : Nat, i < 21 → W.cell? ⟨0, i, none⟩ = some (.int .i64 (rd mid (i : Int)))
  lasts : ∀ i : Nat, i < 28 → W.cell? ⟨1, i, none⟩ = some (.int .i64 (rd las (i : Int)))
theorem Tab.below {W w : World} (h : Tab W) (hb : Below W.heap.size W w) : Tab w :=
  ⟨Nat.le_trans h.size hb.size, fun i hi => (hb.cell (p := ⟨0, i, none⟩) (by have := h.size; show 0 < _; omega)).trans (h.mids i hi), fun i hi => (hb.cell (p := ⟨1, i, none⟩) (by have := h.size; show 1 < _; omega)).trans (h.lasts i hi)⟩
theorem on {w W W1 : World} (h : Below w.heap.size w W) (k : Below W.heap.size W W1) : Below w.heap.size w W1 := below_then h h.size k
def Ok (a b c : Int) : Prop := (0 ≤ a ∧ a ≤ 18) ∧ (0 ≤ b ∧ b ≤ 20) ∧ (0 ≤ c ∧ c ≤ 27)
instance (a b c : Int) : Decidable (Ok a b c) := inferInstanceAs (Decidable (_ ∧ _))
def syl (a b c : Int) : Int := 44032 + (a * 21 + b) * 28 + c
def code (a b c : Int) : Int := 32768 + (a + 2) * 1024 + rd mid b * 32 + rd las c
theorem wraps20 (n : Int) (h0 : 0 ≤ n) (h1 : n < 2 ^ 20) : IntKind.i64.wrap n = n := by rw [IntKind.wrap_i64]; omega
theorem or_add (i : Nat) (x y : Int) (h0 : 0 ≤ x) (h : x % 2 ^ i = 0) (h1 : x < 2 ^ 20) (h2 : 0 ≤ y) (h3 : y < 2 ^ i) (h4 : y < 2 ^ 20) : bits .or .i64 x y = x + y :=
  bits_join .i64 20 (by decide) wraps20 i x y h0 h h1 h2 h3 h4
theorem mid_bd (j : Nat) (h : j < 21) : 3 ≤ rd mid (j : Int) ∧ rd mid (j : Int) ≤ 29 := by
  have : ∀ j : Nat, j < 21 → 3 ≤ rd mid (j : Int) ∧ rd mid (j : Int) ≤ 29 := by decide +kernel
  exact this j h
theorem las_bd (j : Nat) (h : j < 28) : 1 ≤ rd las (j : Int) ∧ rd las (j : Int) ≤ 29 := by
  have : ∀ j : Nat, j < 28 → 1 ≤ rd las (j : Int) ∧ rd las (j : Int) ≤ 29 := by decide +kernel
  exact this j h
theorem or_code (a : Int) (j l : Nat) (a1 : 0 ≤ a) (a2 : a ≤ 18) (hj : j < 21) (hl : l < 28) :
    bits BinOp.or IntKind.i64 (bits BinOp.or IntKind.i64 (bits BinOp.or IntKind.i64 32768 ((a + 2) * 1024)) (wrap64 (rd mid (j : Int) * 32))) (rd las (l : Int)) = code a j l := by
  have m := mid_bd j hj
  have n := las_bd l hl
  have hw : wrap64 (rd mid (j : Int) * 32) = rd mid (j : Int) * 32 := by unfold wrap64; omega
  rw [hw, or_add 15 32768 ((a + 2) * 1024) (by omega) (by omega) (by omega) (by omega) (by omega) (by omega),
    or_add 10 (32768 + (a + 2) * 1024) (rd mid (j : Int) * 32) (by omega) (by omega) (by omega) (by omega) (by omega) (by omega),
    or_add 5 (32768 + (a + 2) * 1024 + rd mid (j : Int) * 32) (rd las (l : Int)) (by omega) (by omega) (by omega) (by omega) (by omega) (by omega)]
  rfl
theorem syl_is (a b c : Int) : ksc_Syllable.f a b c = some (if Ok a b c then (syl a b c, true) else (0, false)) := by
  unfold ksc_Syllable.f
  by_cases h1 : a < 0
  · rw [if_pos h1, if_neg (by unfold Ok; omega)]
  rw [if_neg h1]
  by_cases h2 : a ≥ 19
  · rw [if_pos h2, if_neg (by unfold Ok; omega)]
  rw [if_neg h2]
  by_cases h3 : b < 0
  · rw [if_pos h3, if_neg (by unfold Ok; omega)]
  rw [if_neg h3]
  by_cases h4 : b ≥ 21
  · rw [if_pos h4, if_neg (by unfold Ok; omega)]
  rw [if_neg h4]
  by_cases h5 : c < 0
  · rw [if_pos h5, if_neg (by unfold Ok; omega)]
  rw [if_neg h5]
  by_cases h6 : c ≥ 28
  · rw [if_pos h6, if_neg (by unfold Ok; omega)]
  rw [if_neg h6, if_pos (by unfold Ok; omega)]
  have : wrap32 (wrap64 ((wrap64 (44032 + (wrap64 ((wrap64 ((wrap64 (a * 21)) + b)) * 28)))) + c)) = syl a b c := by
    unfold syl wrap32 wrap64
    omega
  rw [this]
theorem sylC {a b c : Int} (w : World) (ho : Ok a b c) : Calls Tryd.prog 18 #[.int .i64 a, .int .i64 b, .int .i64 c] w fun e w' => e = .returned (.tuple #[.int .i32 (syl a b c), .bool true]) ∧ Drawn0 w w' :=
  ksc_Syllable.calls a b c _ _ w (by rw [syl_is, if_pos ho])
theorem sylC_not {a b c : Int} (w : World) (ho : ¬ Ok a b c) : Calls Tryd.prog 18 #[.int .i64 a, .int .i64 b, .int .i64 c] w fun e w' => e = .returned (.tuple #[.int .i32 0, .bool false]) ∧ Drawn0 w w' :=
  ksc_Syllable.calls a b c _ _ w (by rw [syl_is, if_neg ho])
set_option maxRecDepth 100000 in
theorem packC {a b c : Int} (w : World) (ht : Tab w) (ho : Ok a b c) : Calls Tryd.prog 9 #[.int .i64 a, .int .i64 b, .int .i64 c] w fun e w' => e = .returned (.tuple #[.int .i64 (code a b c), .bool true]) ∧ Below w.heap.size w w' := by
  have HT := Lib.hid ht
  have HO := Lib.hid ho
  clear ht ho
  go_enter Tryd.func9, Tryd.ntmps9
  go_wp2_with fail
  refine (sylC _ HO.out).mono ?_
  rintro e w1 ⟨rfl, hd1⟩
  obtain ⟨⟨m1, rfl⟩⟩ := hd1
  obtain ⟨⟨a1, a2⟩, ⟨b1, b2⟩, c1, c2⟩ := HO.out
  obtain ⟨j, rfl⟩ := Int.eq_ofNat_of_zero_le b1
  obtain ⟨l, rfl⟩ := Int.eq_ofNat_of_zero_le c1
  have q1 := HT.out.mids j (by omega)
  have q2 := HT.out.lasts l (by omega)
  have he : bits BinOp.or IntKind.i64 (bits BinOp.or IntKind.i64 (bits BinOp.or IntKind.i64 32768 ((a + 2) * 1024)) (wrap64 (rd mid (j : Int) * 32))) (rd las (l : Int)) = code a j l := by
    exact or_code a j l a1 a2 (by omega) (by omega)
  go_wp2_with fail
  go_quiet (fail)
  go_wp2_with fail
  go_ret2
  exact ⟨rfl, pw_below_drewN (pw_below_drewN (Below.refl _ _) _) _⟩
set_option maxRecDepth 100000 in
theorem packC_not {a b c : Int} (w : World) (ho : ¬ Ok a b c) : Calls Tryd.prog 9 #[.int .i64 a, .int .i64 b, .int .i64 c] w fun e w' => e = .returned (.tuple #[.int .i64 0, .bool false]) ∧ Below w.heap.size w w' := by
  have HO := Lib.hid ho
  clear ho
  go_enter Tryd.func9, Tryd.ntmps9
  go_wp2_with fail
  refine (sylC_not _ HO.out).mono ?_
  rintro e w1 ⟨rfl, hd1⟩
  obtain ⟨⟨m1, rfl⟩⟩ := hd1
  go_wp2_with fail
  go_ret2
  exact ⟨rfl, pw_below_drewN (Below.refl _ _) _⟩
end Go.Proofs.YtdihghjjinlaaaaDoor.J
