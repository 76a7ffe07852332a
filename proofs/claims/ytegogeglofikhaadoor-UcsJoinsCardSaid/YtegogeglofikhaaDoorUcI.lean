/- strings.IndexRune over the sixteen digits, at any rune from 0 on. -/
import Derived.Test.YtegogeglofikhaaDoorUcP
import Derived.Lib.OthersKept
import Derived.LoopTactic
import Derived.WalkMore
import Derived.Deep.QuietTactic
namespace Go.Proofs.YtegogeglofikhaaDoor.Uc
open Go.RowKit Go.Proofs.YtegogeglofikhaaDoorW.PrintWords Go.Proofs.YtegogeglofikhaaDoorW.PrintLast Go.Proofs.YtegogeglofikhaaDoorW.PrintMore
set_option linter.unusedVariables false
set_option linter.unusedSimpArgs false
abbrev HX : ByteArray := ⟨#[48, 49, 50, 51, 52, 53, 54, 55, 56, 57, 65, 66, 67, 68, 69, 70]⟩
theorem hx_at (p : Nat) (h : p < HX.size) : (HX[p]'h).toNat < 128 := by
  have hd : ∀ p : Fin 16, (HX[p.1]'(p.2)).toNat < 128 := by decide
  exact hd ⟨p, h⟩
theorem ib_none (l : List UInt8) (c : UInt8) (h : ∀ b ∈ l, b.toNat < 128) (hc : 128 ≤ c.toNat) : Lib.indexByte l c = -1 := by
  induction l with
  | nil => rfl
  | cons b l ih =>
    have h1 := h b (List.mem_cons_self ..)
    have hne : (b == c) = false := by
      rw [beq_eq_false_iff_ne]
      rintro rfl
      omega
    rw [Lib.indexByte, hne, ih (fun x hx => h x (List.mem_cons_of_mem _ hx))]
    rfl
set_option maxHeartbeats 2000000 in
set_option maxRecDepth 100000 in
theorem irErr (w : World) : Calls Tryd.prog 26 #[.string HX, .int .i32 65533] w fun e w' => e = .returned (.int .i64 (-1)) ∧ Below w.heap.size w w' := by
  go_enter Tryd.func26, Tryd.ntmps26
  go_wp2_with fail
  go_loopw [] (fun wr => ∃ pos, wr = w.iter HX pos) (fun wr => 16 - wr.iterPos w.heap.size)
  case atStart => exact ⟨0, rfl⟩
  case round =>
    obtain ⟨pos, rfl⟩ := hrel
    by_cases hp : pos < HX.size
    · have hnx : ∀ ty, (Instr.next (.pointer (some ⟨w.heap.size, 0, none⟩)) true ty).run Tryd.prog (w.iter HX pos) = _ := fun ty => run_next_ascii w HX pos ty hp (hx_at pos hp)
      have hx := hx_at pos hp
      obtain ⟨x, hxe⟩ : ∃ x : Nat, x = (HX[pos]'hp).toNat := ⟨_, rfl⟩
      rw [← hxe] at hnx hx
      have hne : ((x : Int) == 65533) = false := by rw [beq_eq_false_iff_ne]; omega
      go_wp2_with fail
      go_roundw
      case rel => exact ⟨pos + 1, rfl⟩
      case measure =>
        have : pos < 16 := hp
        simp
        omega
    · have hnx : ∀ ty, (Instr.next (.pointer (some ⟨w.heap.size, 0, none⟩)) true ty).run Tryd.prog (w.iter HX pos) = _ := fun ty => run_next_end w HX pos ty hp
      go_wp2_with fail
      go_ret
      exact ⟨rfl, below_alloc (Below.refl _ _) _⟩
theorem ibC (s : ByteArray) (u : UInt8) (w : World) (hs : ∀ b ∈ s.data.toList, b.toNat < 128) (hu : 128 ≤ u.toNat) :
    Calls Tryd.prog 32 #[.string s, .int .u8 (u.toNat : Int)] w fun e w' => e = .returned (.int .i64 (-1)) ∧ ∃ m, w' = w.drewN m := by
  refine (Tryd.strings_IndexByte s _ w).mono ?_
  rintro e w' ⟨rfl, rfl⟩
  have huu : ((u.toNat : Int)).toNat.toUInt8 = u := by simp
  rw [huu, ib_none _ _ hs hu]
  exact ⟨rfl, 0, rfl⟩
set_option maxHeartbeats 2000000 in
set_option maxRecDepth 100000 in
theorem irBig (c : Int) (h0 : 128 ≤ c) (h1 : c ≤ 2147483647) (hr : c ≠ 65533) (w : World) : Calls Tryd.prog 26 #[.string HX, .int .i32 c] w fun e w' => e = .returned (.int .i64 (-1)) ∧ Below w.heap.size w w' := by
  have c0 : (0 : Int) ≤ c := by omega
  have c1 : ¬ c < 128 := by omega
  have c2 : (c == 65533) = false := by rw [beq_eq_false_iff_ne]; exact hr
  go_enter Tryd.func26, Tryd.ntmps26
  go_wp2_with fail
  refine (Tryd.utf8_ValidRune c _).mono ?_
  obtain ⟨b, hb⟩ : ∃ b, b = Lib.validRune c := ⟨_, rfl⟩
  rw [← hb]
  rintro e w1 ⟨rfl, rfl⟩
  cases b with
  | false =>
    clear hb
    go_wp2_with fail
    go_ret
    exact ⟨rfl, Below.refl _ _⟩
  | true =>
    have hv : Utf8.valid c = true := by
      rw [validRune_eq]
      exact hb.symm
    obtain ⟨e2, e4, elast⟩ := encode_facts c hv h0
    obtain ⟨E, hE⟩ : ∃ E, E = Utf8.encode c := ⟨_, rfl⟩
    have hcv : ∀ W : World, (convert 21 9 (.int .i32 c)).run Tryd.prog W = .ok (.string E) W := fun W => by
      rw [hE]
      exact run_convert_int_string W 21 9 .i32 c (by kernel_rfl) Tryd.underlying9
    rw [← hE] at e2 e4 elast
    have hl := elast (by omega)
    obtain ⟨u, hu⟩ : ∃ u : UInt8, u = E[E.size - 1]'(by omega) := ⟨_, rfl⟩
    rw [← hu] at hl
    have hix0 : ∀ W : World, (Instr.index 9 (.string E) (.int .i64 ((E.size : Int) - 1))).run Tryd.prog W = .ok (.int .u8 (u.toNat : Int)) W := fun W => by
      rw [run_index_string W 9 E .i64 _ Tryd.underlying9, dif_pos (by omega)]
      rw [hu]
      simp
    have HU : Hid (128 ≤ u.toNat) := Lib.hid hl
    have hu0 : (49 : Int) ≠ (u.toNat : Int) := by omega
    have hu1 : (50 : Int) ≠ (u.toNat : Int) := by omega
    have hu2 : (51 : Int) ≠ (u.toNat : Int) := by omega
    have huu : ((u.toNat : Int)).toNat.toUInt8 = u := by simp
    have HUU := Lib.hid huu
    clear hE hv elast hb hu hl huu
    rcases (by omega : E.size = 2 ∨ E.size = 3 ∨ E.size = 4) with h2 | h2 | h2
    · have hix : ∀ W : World, (Instr.index 9 (.string E) (.int .i64 1)).run Tryd.prog W = .ok (.int .u8 (u.toNat : Int)) W := fun W => by
        have h := hix0 W
        rwa [show ((E.size : Int) - 1) = 1 by omega] at h
      have hwk : IntKind.i64.wrap 2 = 2 := by decide
      have hsl : ∀ W : World, (Instr.slice 9 (.string HX) (some (.int .i64 2)) none none).run Tryd.prog W = .ok (.string (HX.extract 2 16)) W := fun W => by kernel_rfl
      have hih : ∀ W : World, (Instr.index 9 (.string HX) (.int .i64 1)).run Tryd.prog W = .ok (.int .u8 49) W := fun W => by kernel_rfl
      clear hix0 e2 e4
      go_wp2_with fail
      go_step3
      go_wp2_with fail
      first | go_step3 | skip
      go_wp2_with fail
      go_loopw [9] (fun i wr => i = .int .i64 1 ∧ wr = w1) (fun _ _ => 0)
      case atStart => exact ⟨rfl, rfl⟩
      case round =>
        obtain ⟨rfl, rfl⟩ := hrel
        go_wp2_with fail
        go_step3
        go_wp2_with fail
        go_quiet (fail)
        all_goals
          go_wp2_with fail
          have HB1 : Hid (Below wr.heap.size wr (wr.drewN nq)) := Lib.hid (pw_below_drewN (Below.refl _ _) _)
          generalize wr.drewN nq = W1 at *
          go_quiet (first | (go_at_call 32; exact Calls.quiet_of (ibC _ u _ (by decide +kernel) HU.out)) | fail)
        all_goals
          go_wp2_with fail
          change bodyPost Tryd.prog Tryd.f26 (fun e w' => e = Ending.returned (Value.int IntKind.i64 (-1)) ∧ Below wr.heap.size wr w') Exit.ret _ _
          go_ret
          exact ⟨rfl, pw_below_drewN HB1.out _⟩
    · have hix : ∀ W : World, (Instr.index 9 (.string E) (.int .i64 2)).run Tryd.prog W = .ok (.int .u8 (u.toNat : Int)) W := fun W => by
        have h := hix0 W
        rwa [show ((E.size : Int) - 1) = 2 by omega] at h
      have hwk : IntKind.i64.wrap 3 = 3 := by decide
      have hsl : ∀ W : World, (Instr.slice 9 (.string HX) (some (.int .i64 3)) none none).run Tryd.prog W = .ok (.string (HX.extract 3 16)) W := fun W => by kernel_rfl
      have hih : ∀ W : World, (Instr.index 9 (.string HX) (.int .i64 2)).run Tryd.prog W = .ok (.int .u8 50) W := fun W => by kernel_rfl
      clear hix0 e2 e4
      go_wp2_with fail
      go_step3
      go_wp2_with fail
      first | go_step3 | skip
      go_wp2_with fail
      go_loopw [9] (fun i wr => i = .int .i64 2 ∧ wr = w1) (fun _ _ => 0)
      case atStart => exact ⟨rfl, rfl⟩
      case round =>
        obtain ⟨rfl, rfl⟩ := hrel
        go_wp2_with fail
        go_step3
        go_wp2_with fail
        go_quiet (fail)
        all_goals
          go_wp2_with fail
          have HB1 : Hid (Below wr.heap.size wr (wr.drewN nq)) := Lib.hid (pw_below_drewN (Below.refl _ _) _)
          generalize wr.drewN nq = W1 at *
          go_quiet (first | (go_at_call 32; exact Calls.quiet_of (ibC _ u _ (by decide +kernel) HU.out)) | fail)
        all_goals
          go_wp2_with fail
          change bodyPost Tryd.prog Tryd.f26 (fun e w' => e = Ending.returned (Value.int IntKind.i64 (-1)) ∧ Below wr.heap.size wr w') Exit.ret _ _
          go_ret
          exact ⟨rfl, pw_below_drewN HB1.out _⟩
    · have hix : ∀ W : World, (Instr.index 9 (.string E) (.int .i64 3)).run Tryd.prog W = .ok (.int .u8 (u.toNat : Int)) W := fun W => by
        have h := hix0 W
        rwa [show ((E.size : Int) - 1) = 3 by omega] at h
      have hwk : IntKind.i64.wrap 4 = 4 := by decide
      have hsl : ∀ W : World, (Instr.slice 9 (.string HX) (some (.int .i64 4)) none none).run Tryd.prog W = .ok (.string (HX.extract 4 16)) W := fun W => by kernel_rfl
      have hih : ∀ W : World, (Instr.index 9 (.string HX) (.int .i64 3)).run Tryd.prog W = .ok (.int .u8 51) W := fun W => by kernel_rfl
      clear hix0 e2 e4
      go_wp2_with fail
      go_step3
      go_wp2_with fail
      first | go_step3 | skip
      go_wp2_with fail
      go_loopw [9] (fun i wr => i = .int .i64 3 ∧ wr = w1) (fun _ _ => 0)
      case atStart => exact ⟨rfl, rfl⟩
      case round =>
        obtain ⟨rfl, rfl⟩ := hrel
        go_wp2_with fail
        go_step3
        go_wp2_with fail
        go_quiet (fail)
        all_goals
          go_wp2_with fail
          have HB1 : Hid (Below wr.heap.size wr (wr.drewN nq)) := Lib.hid (pw_below_drewN (Below.refl _ _) _)
          generalize wr.drewN nq = W1 at *
          go_quiet (first | (go_at_call 32; exact Calls.quiet_of (ibC _ u _ (by decide +kernel) HU.out)) | fail)
        all_goals
          go_wp2_with fail
          change bodyPost Tryd.prog Tryd.f26 (fun e w' => e = Ending.returned (Value.int IntKind.i64 (-1)) ∧ Below wr.heap.size wr w') Exit.ret _ _
          go_ret
          exact ⟨rfl, pw_below_drewN HB1.out _⟩
/-- What a rune is as a digit; -1: it is none. -/
def hv (c : Int) : Int := if 48 ≤ c ∧ c ≤ 57 then c - 48 else if 65 ≤ c ∧ c ≤ 70 then c - 55 else -1
theorem hv_low : ∀ n : Fin 128, Lib.indexByte HX.data.toList (n.1.toUInt8) = hv (n.1 : Int) := by decide +kernel
theorem irC (c : Int) (h0 : 0 ≤ c) (h1 : c ≤ 2147483647) (w : World) : Calls Tryd.prog 26 #[.string HX, .int .i32 c] w fun e w' => e = .returned (.int .i64 (hv c)) ∧ Below w.heap.size w w' := by
  by_cases hb : c < 128
  · refine (Tryd.strings_IndexRune_ascii HX c w h0 hb).mono ?_
    rintro e w' ⟨rfl, rfl⟩
    obtain ⟨n, rfl⟩ := Int.eq_ofNat_of_zero_le h0
    have := hv_low ⟨n, by omega⟩
    rw [Int.toNat_natCast, this]
    exact ⟨rfl, Below.refl _ _⟩
  · have hv0 : hv c = -1 := by
      unfold hv
      rw [if_neg (by omega), if_neg (by omega)]
    rw [hv0]
    by_cases hr : c = 65533
    · subst hr
      exact irErr w
    · exact irBig c (by omega) h1 hr w
end Go.Proofs.YtegogeglofikhaaDoor.Uc
