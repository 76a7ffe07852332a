/- JohabGets, walked. -/
import Derived.Test.YtdihghjjinlaaaaDoorJGet
import Derived.Test.YtdihghjjinlaaaaDoorJPacks
namespace Go.Proofs.YtdihghjjinlaaaaDoor.J
open Go.RowKit Go.Proofs.YtdihghjjinlaaaaDoorW.PrintWords Go.Proofs.YtdihghjjinlaaaaDoorW.PrintLast Go.Proofs.YtdihghjjinlaaaaDoorW.PrintMore
open Go.Proofs.YtdihghjjinlaaaaDoor.PJohabGets
theorem unpack_k (n : Int) (hn : (Lit.int .i64 n).wf = true) : ∀ d, dragomanref19_Unpack.f (41 + d) n = some (if Code n then (ua n, ub n, uc n, true) else (0, 0, 0, false))
  | 0 => unpack_is n hn
  | d + 1 => dragomanref19_Unpack.mono n (41 + d) _ (unpack_k n hn d)
theorem w64s (n : Int) (h0 : 0 ≤ n) (h1 : n < 1000000) : wrap64 n = n := by unfold wrap64; omega
theorem bg_l0 (x : Int) (h0 : 0 ≤ x) (h1 : x < 256) : ∀ (d k i : Nat), i + d = 256 → d + 42 ≤ k →
    ((∃ j : Nat, i ≤ j ∧ j < 256 ∧ Code (x * 256 + (j : Int))) → dragomanref19_begins.l0 k x (i : Int) = some true) ∧ ((¬ ∃ j : Nat, i ≤ j ∧ j < 256 ∧ Code (x * 256 + (j : Int))) → dragomanref19_begins.l0 k x (i : Int) = some false)
  | 0, k, i, hi, hk => by
    obtain ⟨k, rfl⟩ : ∃ m, k = m + 1 := ⟨k - 1, by omega⟩
    refine ⟨fun ⟨j, hj, hj2, _⟩ => by omega, fun _ => ?_⟩
    rw [dragomanref19_begins.l0, if_neg (by omega)]
  | d + 1, k, i, hi, hk => by
    obtain ⟨k, rfl⟩ : ∃ m, k = 41 + m + 1 := ⟨k - 42, by omega⟩
    have ih := bg_l0 x h0 h1 d (41 + k) (i + 1) (by omega) (by omega)
    have hu := unpack_k (x * 256 + (i : Int)) (small_wf (by omega) (by omega)) k
    rw [dragomanref19_begins.l0, if_pos (by omega), w64s x (by omega) (by omega), w64s (x * 256) (by omega) (by omega), w64s (x * 256 + (i : Int)) (by omega) (by omega), w64s ((i : Int) + 1) (by omega) (by omega), hu, Option.bind_some]
    rw [show ((i : Int) + 1) = ((i + 1 : Nat) : Int) by omega]
    by_cases hc : Code (x * 256 + (i : Int))
    · rw [if_pos hc]
      exact ⟨fun _ => rfl, fun h => absurd ⟨i, Nat.le_refl _, by omega, hc⟩ h⟩
    · rw [if_neg hc]
      refine ⟨fun ⟨j, hj, hj2, hj3⟩ => ih.1 ⟨j, ?_, hj2, hj3⟩, fun h => ih.2 (fun ⟨j, hj, hj2, hj3⟩ => h ⟨j, by omega, hj2, hj3⟩)⟩
      rcases Nat.lt_or_ge i j with h | h
      · exact h
      · exact absurd (by rw [show i = j by omega]; exact hj3) hc
theorem bg_yes {x : Int} (h0 : 0 ≤ x) (h1 : x < 256) (h : Bg x) : dragomanref19_begins.f 300 x = some true := by
  obtain ⟨j, hj, hc⟩ := h
  exact (bg_l0 x h0 h1 256 300 0 (by omega) (by omega)).1 ⟨j, by omega, hj, hc⟩
theorem bg_no {x : Int} (h0 : 0 ≤ x) (h1 : x < 256) (h : ¬ Bg x) : dragomanref19_begins.f 300 x = some false :=
  (bg_l0 x h0 h1 256 300 0 (by omega) (by omega)).2 (fun ⟨j, _, hj, hc⟩ => h ⟨j, hj, hc⟩)
theorem ref_get {l : List Int} {e n k u : Int} (h : GotIs l e n k u) : dragomanref19_Get.f 300 l = some (e, n, k, u, 0, 0, 0, 0, 0) := by
  unfold dragomanref19_Get.f
  cases h with
  | none => rfl
  | won t =>
    have hr : rd (92 :: t) 0 = 92 := rfl
    rw [if_neg (by simp; omega), if_pos (by simp), hr, if_pos rfl]
  | low x t h1 h2 h3 =>
    have hr : rd (u :: t) 0 = u := rfl
    rw [if_neg (by simp; omega), if_pos (by simp), hr, if_neg h1, if_pos h3]
    have : wrap32 u = u := by unfold wrap32; omega
    rw [this]
  | bad x t h1 h2 hb =>
    have hr : rd (x :: t) 0 = x := rfl
    rw [if_neg (by simp; omega), if_pos (by simp), hr, if_neg (by omega), if_neg (by omega), bg_no (by omega) h2 hb]
    rfl
  | more x h1 h2 hb =>
    have hr : rd [x] 0 = x := rfl
    rw [if_neg (by simp), if_pos (by simp), hr, if_neg (by omega), if_neg (by omega), bg_yes (by omega) h2 hb]
    rfl
  | two x y t h1 h2 h3 h4 hb hc =>
    have hr : rd (x :: y :: t) 0 = x := rfl
    have hr1 : rd (x :: y :: t) 1 = y := rfl
    have hu := unpack_k (x * 256 + y) (small_wf (by omega) (by omega)) 259
    rw [if_pos hc] at hu
    rw [if_neg (by simp; omega), if_pos (by simp; omega), hr, hr1, if_neg (by omega), if_neg (by omega), bg_yes (by omega) h2 hb, Option.bind_some, if_pos rfl, if_neg (by simp; omega), if_pos (by simp; omega), w64s x (by omega) (by omega), w64s y (by omega) (by omega), w64s (x * 256) (by omega) (by omega), w64s (x * 256 + y) (by omega) (by omega)]
    show (dragomanref19_Unpack.f (41 + 259) (x * 256 + y)).bind _ = _
    rw [hu, Option.bind_some, if_pos rfl]
    show (dragomanref16_Syllable.f (ua (x * 256 + y)) (ub (x * 256 + y)) (uc (x * 256 + y))).bind _ = _
    rw [refSyl_is, if_pos hc.2]
    rfl
  | ill x y t h1 h2 h3 h4 hb hc =>
    have hr : rd (x :: y :: t) 0 = x := rfl
    have hr1 : rd (x :: y :: t) 1 = y := rfl
    have hu := unpack_k (x * 256 + y) (small_wf (by omega) (by omega)) 259
    rw [if_neg hc] at hu
    rw [if_neg (by simp; omega), if_pos (by simp; omega), hr, hr1, if_neg (by omega), if_neg (by omega), bg_yes (by omega) h2 hb, Option.bind_some, if_pos rfl, if_neg (by simp; omega), if_pos (by simp; omega), w64s x (by omega) (by omega), w64s y (by omega) (by omega), w64s (x * 256) (by omega) (by omega), w64s (x * 256 + y) (by omega) (by omega)]
    show (dragomanref19_Unpack.f (41 + 259) (x * 256 + y)).bind _ = _
    rw [hu]
    rfl
theorem refGetC (A : Option Addr) (c : Nat) (l : List Int) (e n k u : Int) (w : World) (hC : Kd.C (Kd.int .u8) w A l.length l) (hc : l.length ≤ c) (h : GotIs l e n k u) :
    Calls Tryd.prog 16 #[.slice A l.length c] w fun e' w' => e' = .returned (gotV e n k u) ∧ Below w.heap.size w w' :=
  dragomanref19_Get.calls 300 A c l _ _ _ _ _ _ _ _ _ w hC hc (ref_get h)
theorem info5 : (Tryd.prog.info? 5).map (fun i => (i.zero, i.size, i.bytes)) = some (some (.int .u8 0), 1, 1) := by kernel_rfl
theorem open_row {w : World} {a : Option Addr} {len cap : Nat} {zs : List Int} (h : (a = none ∧ len = 0 ∧ cap = 0 ∧ zs = []) ∨ ∃ x, a = some x ∧ len ≤ cap ∧ cap ≤ maxLen ∧ zs.length = cap ∧ (∀ i, i < zs.length → w.cell? (x.add i) = some (.int .u8 (zs.getD i 0))) ∧ ∀ n ∈ zs, (Lit.int .u8 n).wf = true) :
    ∃ l : List Int, len = l.length ∧ Kd.C (Kd.int .u8) w a l.length l ∧ l.length ≤ cap ∧ ∀ x ∈ l, 0 ≤ x ∧ x < 256 := by
  obtain ⟨l, h1, h2, _, h4, h5⟩ := ReadsInt.ofRowC h
  refine ⟨l, h1, Kd.C_of_reads (d := (0 : Int)) h2, h5, fun x hx => ?_⟩
  have := bounds_u8 (h4 x hx)
  omega
set_option maxRecDepth 100000 in
theorem gets_yes (A : Option Addr) (c : Nat) (l : List Int) (w : World) (ht : Tab w) (hC : Kd.C (Kd.int .u8) w A l.length l) (hc : l.length ≤ c) (hb : ∀ x ∈ l, 0 ≤ x ∧ x < 256) (hlen : l.length ≤ 140737488355328) :
    Calls Tryd.prog 5 #[.slice A l.length c] w fun e w' => e = .returned (.bool true) ∧ Below w.heap.size w w' := by
  obtain ⟨e0, n0, k0, u0, hg⟩ := got_ex l hb
  have HT := Lib.hid ht
  have HG := Lib.hid hg
  have HC := Lib.hid hC
  have Hc := Lib.hid hc
  clear ht hg hC hc hb
  go_enter Tryd.func5, Tryd.ntmps5
  go_wp2_with (at_builtin; refine print_append_row w.heap.size rfl (.tmp 4) (.tmp 5) 35 5 .u8 1 rfl Tryd.underlying35 info5 (by omega) (.slice (some ⟨w.heap.size, 0, none⟩) 0 0) [] l A l.length c rfl rfl (own_lit w w.heap.size 5 .u8 [] (Nat.le_refl _) (by simp)) (Kd.reads_of_C (enc := Value.int .u8) (d := (0 : Int)) (h1 := fun _ => rfl) (Kd.C_below HC.out (below_alloc (Below.refl _ _) _))) (below_alloc (Below.refl _ _) _) (by simp) (by simp; omega) ?_; intro v1 w1 hown1 hb1 hg1 hat1; clear hg1 hat1; have HO1 : Hid (w1.ownsRow w.heap.size 5 1 v1 l.length (nums .u8 l)) := hown1; have HB1 := Lib.hid hb1; clear hown1 hb1)
  obtain ⟨A1, c1, rfl, hr1⟩ := own_reads HO1.out
  have HR1 : Hid (Kd.C (Kd.int .u8) w1 A1 l.length l) := Kd.C_of_reads (d := (0 : Int)) hr1
  clear hr1 HO1
  refine (getC A1 c1 l e0 n0 k0 u0 _ (HT.out.below HB1.out) HR1.out HG.out).mono ?_
  rintro e w2 ⟨rfl, hb2⟩
  have HB2 : Hid (Below w.heap.size w w2) := on HB1.out hb2
  have HR2 := Lib.hid (Kd.C_below HR1.out hb2)
  clear hb2
  go_wp2_with fail
  refine (refGetC A c l e0 n0 k0 u0 _ (Kd.C_below HC.out HB2.out) Hc.out HG.out).mono ?_
  rintro e w3 ⟨rfl, hb3⟩
  have HB3 : Hid (Below w.heap.size w w3) := on HB2.out hb3
  have hv1 := Kd.C_string (P := Tryd.prog) (c := c1) Tryd.underlying35 Tryd.underlying5 Tryd.underlying9 (Kd.C_below HR2.out hb3)
  have hv2 := Kd.C_string (P := Tryd.prog) (c := c) Tryd.underlying35 Tryd.underlying5 Tryd.underlying9 (Kd.C_below HC.out HB3.out)
  clear hb3
  go_wp2_with fail
  go_ret
  exact ⟨rfl, HB3.out⟩
theorem gets_walk (w : World) (ht : Tab w) (a : Option Addr) (len cap : Nat) (zs : List Int) (h : (a = none ∧ len = 0 ∧ cap = 0 ∧ zs = []) ∨ ∃ x, a = some x ∧ len ≤ cap ∧ cap ≤ maxLen ∧ zs.length = cap ∧ (∀ i, i < zs.length → w.cell? (x.add i) = some (.int .u8 (zs.getD i 0))) ∧ ∀ n ∈ zs, (Lit.int .u8 n).wf = true)
    (hl : len * 1 ≤ 140737488351232) : Calls Tryd.prog 5 #[.slice a len cap] w fun e w' => e = .returned (.bool true) ∧ Below w.heap.size w w' := by
  obtain ⟨l, rfl, hC, hc, hb⟩ := open_row h
  exact gets_yes a cap l w ht hC hc hb (by omega)
end Go.Proofs.YtdihghjjinlaaaaDoor.J
