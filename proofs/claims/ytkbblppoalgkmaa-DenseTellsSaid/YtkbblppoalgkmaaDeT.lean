/- The reference's table: Scalar and Byte. -/
import Derived.Test.YtkbblppoalgkmaaDeB
import Derived.Test.YtkbblppoalgkmaaDeL
namespace Go.Proofs.Ytkbblppoalgkmaa.De
open Go.RowKit Go.Maps Go.Proofs.YtkbblppoalgkmaaW.PrintWords Go.Proofs.YtkbblppoalgkmaaW.PrintLast Go.Proofs.YtkbblppoalgkmaaW.PrintMore
set_option linter.unusedVariables false
set_option linter.unusedSimpArgs false
set_option maxHeartbeats 2000000 in
theorem rscalarC {w : World} {A : Option Addr} {c : Nat} {first : Int} {L : List Int} (hC : Kd.C (Kd.int .i32) w A L.length L) (hf : 0 ≤ first ∧ first ≤ 255) (b : Int) (hb : 0 ≤ b ∧ b < 256) :
    Calls Try.prog 11 #[.agg #[.int .i64 first, .slice A L.length c], .int .u8 b] w fun e w' => e = .returned (.tuple #[.int .i32 (scalF first L b), .bool (scalOk first L b)]) ∧ Below w.heap.size w w' := by
  have e1 : wrap64 b = b := by unfold wrap64; omega
  have e2 : wrap64 (b - first) = b - first := by unfold wrap64; omega
  have HC := Lib.hid hC
  unfold scalF scalOk
  clear hC
  by_cases k0 : b - first < 0
  · rw [decide_eq_false (show ¬ (0 ≤ b - first ∧ b - first < (L.length : Int) ∧ rd L (b - first) ≠ 65533) by omega)]
    go_enter Try.func11, Try.ntmps11
    go_wp2_with fail
    go_ret2
    exact ⟨rfl, below_alloc (Below.refl _ _) _⟩
  · by_cases k1 : b - first ≥ (L.length : Int)
    · rw [decide_eq_false (show ¬ (0 ≤ b - first ∧ b - first < (L.length : Int) ∧ rd L (b - first) ≠ 65533) by omega)]
      go_enter Try.func11, Try.ntmps11
      go_wp2_with fail
      go_ret2
      exact ⟨rfl, below_alloc (Below.refl _ _) _⟩
    · have i0 : 0 ≤ b - first := by omega
      have i1 : b - first < (L.length : Int) := by omega
      obtain ⟨ad, hA, hcell⟩ := Kd.at_int (Kd.C_below HC.out (below_alloc (Below.refl w.heap.size w) (.cells #[.int .i64 first, .slice A L.length c] 35))) (b - first) (by omega) (by omega)
      subst hA
      obtain ⟨y, hy⟩ : ∃ y, y = rd L (b - first) := ⟨_, rfl⟩
      rw [← hy] at hcell ⊢
      by_cases k2 : y = 65533
      · rw [decide_eq_false (show ¬ (0 ≤ b - first ∧ b - first < (L.length : Int) ∧ y ≠ 65533) by omega)]
        have k3 : (y == 65533) = true := by rw [k2]; rfl
        clear k2 hy
        go_enter Try.func11, Try.ntmps11
        go_wp2_with fail
        go_ret2
        exact ⟨rfl, below_alloc (Below.refl _ _) _⟩
      · rw [decide_eq_true (show 0 ≤ b - first ∧ b - first < (L.length : Int) ∧ y ≠ 65533 from ⟨i0, i1, k2⟩), if_pos rfl]
        have k3 : (y == 65533) = false := by rw [beq_eq_false_iff_ne]; exact k2
        clear hy
        go_enter Try.func11, Try.ntmps11
        go_wp2_with fail
        go_ret2
        exact ⟨rfl, below_alloc (Below.refl _ _) _⟩
set_option maxHeartbeats 2000000 in
theorem rbyteC {w : World} {A : Option Addr} {c : Nat} {first : Int} {L : List Int} (hC : Kd.C (Kd.int .i32) w A L.length L) (hf : 0 ≤ first) (hl : first + (L.length : Int) ≤ 256) (u : Int) :
    Calls Try.prog 12 #[.agg #[.int .i64 first, .slice A L.length c], .int .i32 u] w fun e w' => e = .returned (.tuple #[.int .u8 (byteF first L u), .bool (bOk L u)]) ∧ Below w.heap.size w w' := by
  have HC := Lib.hid hC
  clear hC
  obtain ⟨x, hx⟩ : ∃ x, x = byteF first L u := ⟨_, rfl⟩
  obtain ⟨b, hb⟩ : ∃ b, b = bOk L u := ⟨_, rfl⟩
  rw [← hx, ← hb]
  have HX := Lib.hid hx
  have HB := Lib.hid hb
  clear hx hb
  go_enter Try.func12, Try.ntmps12
  go_wp2_with fail
  go_loopw [6] (fun i wr => ∃ k : Nat, k ≤ L.length ∧ i = .int .i64 (k : Int) ∧ Hid (bOk L u = true → k ≤ idx L u) ∧ wr = w.alloc (.cells #[.int .i64 first, .slice A L.length c] 35)) (fun i _ => L.length - (intOf i).toNat)
  case atStart => exact ⟨0, by omega, rfl, fun _ => Nat.zero_le _, rfl⟩
  case round =>
    obtain ⟨k, hk, rfl, HI, rfl⟩ := hrel
    have hcx0 := blk_cell (heap_alloc_new w (.cells #[.int .i64 first, .slice A L.length c] 35)) 0
    have hcx1 := blk_cell (heap_alloc_new w (.cells #[.int .i64 first, .slice A L.length c] 35)) 1
    by_cases hlt : k < L.length
    · have k1 : (k : Int) < (L.length : Int) := by omega
      obtain ⟨ad, hA, hcell⟩ := Kd.at_int (Kd.C_below HC.out (below_alloc (Below.refl w.heap.size w) (.cells #[.int .i64 first, .slice A L.length c] 35))) (k : Int) (by omega) (by omega)
      subst hA
      obtain ⟨y, hy⟩ : ∃ y, y = rd L (k : Int) := ⟨_, rfl⟩
      rw [← hy] at hcell; simp only [Int.toNat_natCast] at hcell
      by_cases hyu : y = u
      · by_cases hu : u = 65533
        · have hb0 : b = false := by
            rw [HB.out]
            cases hq : bOk L u with
            | false => rfl
            | true => exact absurd hu ((bOk_iff L u).1 hq).1
          have k2 : (y == u) = true := by rw [hyu]; exact beq_self_eq_true _
          have k3 : (u != 65533) = false := by rw [hu]; rfl
          have HN : Hid (bOk L u = true → k + 1 ≤ idx L u) := fun h => by rw [← HB.out, hb0] at h; cases h
          clear hy hyu hu hb0
          go_wp2_with fail
          go_roundw
          case rel => exact ⟨k + 1, by omega, by go_num, HN, by first | trivial | rfl⟩
          case measure => simp [intOf]; omega
        · have hget : L[k]'hlt = u := by rw [← hyu, hy, rd_get L k hlt]
          have hb1 : bOk L u = true := (bOk_iff L u).2 ⟨hu, by rw [← hget]; exact List.getElem_mem _⟩
          have hik : idx L u = k := by
            have := idx_le L k hlt u hget
            have := HI.out hb1
            omega
          have hx1 : x = first + (k : Int) := by rw [HX.out]; unfold byteF; rw [if_pos hb1, hik]
          have hb2 : b = true := HB.out.trans hb1
          have k2 : (y == u) = true := by rw [hyu]; exact beq_self_eq_true _
          have k3 : (u != 65533) = true := bne_iff_ne.mpr hu
          have e1 : wrap64 (first + (k : Int)) = first + (k : Int) := by unfold wrap64; omega
          have e2 : IntKind.u8.wrap (first + (k : Int)) = first + (k : Int) := by rw [IntKind.wrap_u8]; omega
          clear hy hyu hu hget hb1 hik HX HB
          subst hx1 hb2
          go_wp2_with fail
          go_ret2
          exact ⟨rfl, below_alloc (Below.refl _ _) _⟩
      · have k2 : (y == u) = false := beq_eq_false_iff_ne.mpr hyu
        have HN : Hid (bOk L u = true → k + 1 ≤ idx L u) := fun h => by
          have h1 := HI.out h
          rcases Nat.lt_or_ge k (idx L u) with h2 | h2
          · exact h2
          · exfalso
            have h3 : idx L u = k := by omega
            have h4 := idx_at L u ((bOk_iff L u).1 h).2
            apply hyu
            rw [hy, rd_get L k hlt, ← h4]
            congr 1
            exact h3.symm
        clear hy hyu
        go_wp2_with fail
        go_roundw
        case rel => exact ⟨k + 1, by omega, by go_num, HN, by first | trivial | rfl⟩
        case measure => simp [intOf]; omega
    · have hb0 : b = false := by
        rw [HB.out]
        cases hq : bOk L u with
        | false => rfl
        | true =>
          have h1 := HI.out hq
          have h2 := idx_lt L u ((bOk_iff L u).1 hq).2
          omega
      have hx0 : x = 0 := by
        rw [HX.out]
        unfold byteF
        rw [← HB.out, hb0]
        rfl
      have k1 : ¬ (k : Int) < (L.length : Int) := by omega
      clear HX HB
      subst hb0 hx0
      go_wp2_with fail
      go_ret2
      exact ⟨rfl, below_alloc (Below.refl _ _) _⟩
end Go.Proofs.Ytkbblppoalgkmaa.De
