/- johab.Unpack, walked. -/
import Derived.Test.YtdihghjjinlaaaaDoorJSet
namespace Go.Proofs.YtdihghjjinlaaaaDoor.J
open Go.RowKit Go.Proofs.YtdihghjjinlaaaaDoorW.PrintWords Go.Proofs.YtdihghjjinlaaaaDoorW.PrintLast Go.Proofs.YtdihghjjinlaaaaDoorW.PrintMore
open Go.Proofs.YtdihghjjinlaaaaDoor.PJohabPlain
/-- Where a number stands in a table. -/
def ix : List Int → Int → Int → Int
  | [], _, _ => -1
  | y :: t, x, k => if x = y then k else ix t x (k + 1)
def im (x : Int) : Int := ix mid x 0
def il (x : Int) : Int := ix las x 0
theorem im_is (x : Int) (h0 : 0 ≤ x) (h1 : x < 32) : slices_Index_int_int.f 40 mid x = some (im x) := by
  obtain ⟨n, rfl⟩ := Int.eq_ofNat_of_zero_le h0
  have : ∀ n : Nat, n < 32 → slices_Index_int_int.f 40 mid (n : Int) = some (im (n : Int)) := by decide +kernel
  exact this n (by omega)
theorem il_is (x : Int) (h0 : 0 ≤ x) (h1 : x < 32) : slices_Index_int_int.f 40 las x = some (il x) := by
  obtain ⟨n, rfl⟩ := Int.eq_ofNat_of_zero_le h0
  have : ∀ n : Nat, n < 32 → slices_Index_int_int.f 40 las (n : Int) = some (il (n : Int)) := by decide +kernel
  exact this n (by omega)
theorem and31 (n : Int) : bits .and .i64 n 31 = n % 32 := by
  have h31 : (BitVec.ofInt 64 31).toNat = 2 ^ 5 - 1 := by decide
  have key : (BitVec.ofInt 64 n &&& BitVec.ofInt 64 31).toNat = (n % ((2 ^ 64 : Nat) : Int)).toNat % 2 ^ 5 := by
    rw [BitVec.toNat_and, BitVec.toNat_ofInt, h31, Nat.and_two_pow_sub_one_eq_mod]
  show IntKind.i64.wrap ((BitVec.ofInt 64 n &&& BitVec.ofInt 64 31).toNat : Nat) = n % 32
  rw [key, IntKind.wrap_i64]
  omega
def ua (n : Int) : Int := n / 1024 % 32 - 2
def ub (n : Int) : Int := im (n / 32 % 32)
def uc (n : Int) : Int := il (n % 32)
/-- Is a number a code? -/
def Code (n : Int) : Prop := (32768 ≤ n ∧ n < 65536) ∧ Ok (ua n) (ub n) (uc n)
instance (n : Int) : Decidable (Code n) := inferInstanceAs (Decidable (_ ∧ _))
theorem mid_reads {W : World} (h : Tab W) : Kd.C (Kd.int .i64) W (some ⟨0, 0, none⟩) mid.length mid :=
  Kd.C_of_reads (d := (0 : Int)) ⟨rfl, by decide, fun _ => ⟨_, rfl, fun j hj => by
    rw [add_plain]
    exact h.mids j hj⟩⟩
theorem las_reads {W : World} (h : Tab W) : Kd.C (Kd.int .i64) W (some ⟨1, 0, none⟩) las.length las :=
  Kd.C_of_reads (d := (0 : Int)) ⟨rfl, by decide, fun _ => ⟨_, rfl, fun j hj => by
    rw [add_plain]
    exact h.lasts j hj⟩⟩
theorem imC (x : Int) (w : World) (ht : Tab w) (h0 : 0 ≤ x) (h1 : x < 32) : Calls Tryd.prog 22 #[.slice (some ⟨0, 0, none⟩) 21 21, .int .i64 x] w fun e w' => e = .returned (.int .i64 (im x)) ∧ Drawn0 w w' :=
  slices_Index_int_int.calls 40 _ 21 mid x _ w (mid_reads ht) (Nat.le_refl _) (im_is x h0 h1)
theorem ilC (x : Int) (w : World) (ht : Tab w) (h0 : 0 ≤ x) (h1 : x < 32) : Calls Tryd.prog 22 #[.slice (some ⟨1, 0, none⟩) 28 28, .int .i64 x] w fun e w' => e = .returned (.int .i64 (il x)) ∧ Drawn0 w w' :=
  slices_Index_int_int.calls 40 _ 28 las x _ w (las_reads ht) (Nat.le_refl _) (il_is x h0 h1)
theorem tab_drewN {W : World} (h : Tab W) (m : Nat) : Tab (W.drewN m) := h.below (pw_below_drewN (Below.refl _ _) m)
set_option maxRecDepth 100000 in
theorem unpackD (n : Int) (w : World) (ht : Tab w) (h : Code n) : Calls Tryd.prog 11 #[.int .i64 n] w fun e w' => e = .returned (.tuple #[.int .i64 (ua n), .int .i64 (ub n), .int .i64 (uc n), .bool true]) ∧ Drawn0 w w' := by
  have HT := Lib.hid ht
  obtain ⟨⟨h0, h1⟩, ho⟩ := h
  have HO := Lib.hid ho
  clear ht ho
  have a1 := and31 (n / 1024)
  have a2 := and31 (n / 32)
  have a3 := and31 n
  have b1 : 0 ≤ n / 1024 % 32 ∧ n / 1024 % 32 < 32 := by omega
  have b2 : 0 ≤ n / 32 % 32 ∧ n / 32 % 32 < 32 := by omega
  have b3 : 0 ≤ n % 32 ∧ n % 32 < 32 := by omega
  have hd : n / 32768 = 1 := by omega
  go_enter Tryd.func11, Tryd.ntmps11
  go_wp2_with fail
  refine (imC _ _ HT.out b2.1 b2.2).mono ?_
  rintro e w1 ⟨rfl, hd1⟩
  obtain ⟨⟨m1, rfl⟩⟩ := hd1
  go_wp2_with fail
  refine (ilC _ _ (tab_drewN HT.out _) b3.1 b3.2).mono ?_
  rintro e w2 ⟨rfl, hd2⟩
  obtain ⟨⟨m2, rfl⟩⟩ := hd2
  go_wp2_with fail
  refine (sylC _ HO.out).mono ?_
  rintro e w3 ⟨rfl, hd3⟩
  obtain ⟨⟨m3, rfl⟩⟩ := hd3
  go_wp2_with fail
  refine bodyPost_ret (results_list (rs := [.tmp 2, .tmp 3, .tmp 4, .tmp 5]) rfl (by simp) (.tmp (.tmp (.tmp (.tmp .nil))))) rfl ?_
  exact ⟨rfl, ⟨⟨_, rfl⟩⟩⟩
set_option maxRecDepth 100000 in
theorem unpackD_not (n : Int) (w : World) (ht : Tab w) (hn : (Lit.int .i64 n).wf = true) (h : ¬ Code n) : Calls Tryd.prog 11 #[.int .i64 n] w fun e w' => e = .returned (.tuple #[.int .i64 0, .int .i64 0, .int .i64 0, .bool false]) ∧ Drawn0 w w' := by
  have HT := Lib.hid ht
  have hb := bounds_i64 hn
  clear ht
  by_cases hr : 32768 ≤ n ∧ n < 65536
  · have HO : Hid (¬ Ok (ua n) (ub n) (uc n)) := fun ho => h ⟨hr, ho⟩
    obtain ⟨h0, h1⟩ := hr
    have a1 := and31 (n / 1024)
    have a2 := and31 (n / 32)
    have a3 := and31 n
    have b1 : 0 ≤ n / 1024 % 32 ∧ n / 1024 % 32 < 32 := by omega
    have b2 : 0 ≤ n / 32 % 32 ∧ n / 32 % 32 < 32 := by omega
    have b3 : 0 ≤ n % 32 ∧ n % 32 < 32 := by omega
    have hd : n / 32768 = 1 := by omega
    clear h
    go_enter Tryd.func11, Tryd.ntmps11
    go_wp2_with fail
    refine (imC _ _ HT.out b2.1 b2.2).mono ?_
    rintro e w1 ⟨rfl, hd1⟩
    obtain ⟨⟨m1, rfl⟩⟩ := hd1
    go_wp2_with fail
    refine (ilC _ _ (tab_drewN HT.out _) b3.1 b3.2).mono ?_
    rintro e w2 ⟨rfl, hd2⟩
    obtain ⟨⟨m2, rfl⟩⟩ := hd2
    go_wp2_with fail
    refine (sylC_not _ HO.out).mono ?_
    rintro e w3 ⟨rfl, hd3⟩
    obtain ⟨⟨m3, rfl⟩⟩ := hd3
    go_wp2_with fail
    refine bodyPost_ret (results_list (rs := [.tmp 2, .tmp 3, .tmp 4, .tmp 5]) rfl (by simp) (.tmp (.tmp (.tmp (.tmp .nil))))) rfl ?_
    exact ⟨rfl, ⟨⟨_, rfl⟩⟩⟩
  · have hd : ((n / 32768 : Int) != 1) = true := by rw [bne_iff_ne]; omega
    clear h
    go_enter Tryd.func11, Tryd.ntmps11
    go_wp2_with fail
    refine bodyPost_ret (results_list (rs := [.tmp 2, .tmp 3, .tmp 4, .tmp 5]) rfl (by simp) (.tmp (.tmp (.tmp (.tmp .nil))))) rfl ?_
    exact ⟨rfl, Drawn0.refl _⟩
theorem drawn_below {w w' : World} (h : Drawn0 w w') : Below w.heap.size w w' := by
  obtain ⟨⟨m, rfl⟩⟩ := h
  exact pw_below_drewN (Below.refl _ _) _
theorem unpackC (n : Int) (w : World) (ht : Tab w) (h : Code n) : Calls Tryd.prog 11 #[.int .i64 n] w fun e w' => e = .returned (.tuple #[.int .i64 (ua n), .int .i64 (ub n), .int .i64 (uc n), .bool true]) ∧ Below w.heap.size w w' :=
  (unpackD n w ht h).mono fun _ _ ⟨h1, h2⟩ => ⟨h1, drawn_below h2⟩
theorem unpackC_not (n : Int) (w : World) (ht : Tab w) (hn : (Lit.int .i64 n).wf = true) (h : ¬ Code n) : Calls Tryd.prog 11 #[.int .i64 n] w fun e w' => e = .returned (.tuple #[.int .i64 0, .int .i64 0, .int .i64 0, .bool false]) ∧ Below w.heap.size w w' :=
  (unpackD_not n w ht hn h).mono fun _ _ ⟨h1, h2⟩ => ⟨h1, drawn_below h2⟩
/-- A code's parts are where they came from. -/
theorem code_unpack {a b c : Int} (h : Ok a b c) : Code (code a b c) ∧ ua (code a b c) = a ∧ ub (code a b c) = b ∧ uc (code a b c) = c := by
  have hb := code_bd h
  have ho := h
  obtain ⟨⟨a1, a2⟩, ⟨b1, b2⟩, c1, c2⟩ := h
  obtain ⟨j, rfl⟩ := Int.eq_ofNat_of_zero_le b1
  obtain ⟨l, rfl⟩ := Int.eq_ofNat_of_zero_le c1
  have m := mid_bd j (by omega)
  have n := las_bd l (by omega)
  have e1 : ua (code a j l) = a := by unfold ua code; omega
  have e2 : code a j l / 32 % 32 = rd mid (j : Int) := by unfold code; omega
  have e3 : code a j l % 32 = rd las (l : Int) := by unfold code; omega
  have k1 : ∀ j : Nat, j < 21 → im (rd mid (j : Int)) = j := by decide +kernel
  have k2 : ∀ j : Nat, j < 28 → il (rd las (j : Int)) = j := by decide +kernel
  have e4 : ub (code a j l) = j := by unfold ub; rw [e2]; exact k1 j (by omega)
  have e5 : uc (code a j l) = l := by unfold uc; rw [e3]; exact k2 l (by omega)
  refine ⟨⟨hb, ?_⟩, e1, e4, e5⟩
  rw [e1, e4, e5]
  exact ho
/-- A number that is a code is its parts' code. -/
theorem unpack_code {n : Int} (h : Code n) : code (ua n) (ub n) (uc n) = n := by
  obtain ⟨⟨h0, h1⟩, ho⟩ := h
  obtain ⟨_, ⟨b1, _⟩, c1, _⟩ := ho
  have k1 : ∀ x : Nat, x < 32 → 0 ≤ im (x : Int) → rd mid (im (x : Int)) = x := by decide +kernel
  have k2 : ∀ x : Nat, x < 32 → 0 ≤ il (x : Int) → rd las (il (x : Int)) = x := by decide +kernel
  obtain ⟨x, hx⟩ := Int.eq_ofNat_of_zero_le (show 0 ≤ n / 32 % 32 by omega)
  obtain ⟨y, hy⟩ := Int.eq_ofNat_of_zero_le (show 0 ≤ n % 32 by omega)
  have e1 : rd mid (ub n) = n / 32 % 32 := by
    unfold ub at b1 ⊢
    rw [hx] at b1 ⊢
    exact k1 x (by omega) b1
  have e2 : rd las (uc n) = n % 32 := by
    unfold uc at c1 ⊢
    rw [hy] at c1 ⊢
    exact k2 y (by omega) c1
  unfold code
  rw [e1, e2]
  unfold ua
  omega
end Go.Proofs.YtdihghjjinlaaaaDoor.J
