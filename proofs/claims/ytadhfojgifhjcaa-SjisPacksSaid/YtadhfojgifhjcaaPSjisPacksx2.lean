-- PRINTED BY print.sh 35421559b90ae4d0a3588c463048766b98c2df88dd9212a6774a882060cdf62d: not written by this session
import Derived.Test.YtadhfojgifhjcaaPSjisPacksx0
import Derived.Test.YtadhfojgifhjcaaPSjisPacksx1
namespace Go.Proofs.Ytadhfojgifhjcaa.PSjisPacks
open Go.RowKit Go.Proofs.YtadhfojgifhjcaaW.PrintWords Go.Proofs.YtadhfojgifhjcaaW.PrintLast Go.Proofs.YtadhfojgifhjcaaW.PrintMore
attribute [local go_sem] max2_int min2_int max_two min_two max_three min_three max_four min_four   -- for this text's walks alone
set_option linter.unusedVariables false
set_option linter.unusedSimpArgs false

/-! ### dragomanref18_Unpack: function 35 -/
mutual
def dragomanref18_Unpack.l0 : Nat → Int → Int → Int → Option (Int × Int × Bool)
  | 0, _, _, _ => none
  | k + 1, x0, x1, x7 => if x7 ≤ 94 then ((dragomanref18_Pack.f k x7 1).bind fun bt103 => (if bt103.1 = x0 then (dragomanref18_Unpack.l1 k x0 x1 x7 1) else (dragomanref18_Unpack.l0 k x0 x1 (wrap64 (x7 + 1))))) else (some (0, 0, false))
def dragomanref18_Unpack.l1 : Nat → Int → Int → Int → Int → Option (Int × Int × Bool)
  | 0, _, _, _, _ => none
  | k + 1, x0, x1, x7, x11 => if x11 ≤ 94 then ((dragomanref18_Pack.f k x7 x11).bind fun bt106 => (if bt106.2.1 = x1 then (some (x7, x11, true)) else (dragomanref18_Unpack.l1 k x0 x1 x7 (wrap64 (x11 + 1))))) else (dragomanref18_Unpack.l0 k x0 x1 (wrap64 (x7 + 1)))
end
def dragomanref18_Unpack.f (k : Nat) (a0 : Int) (a1 : Int) : Option (Int × Int × Bool) := dragomanref18_Unpack.l0 k a0 a1 1
theorem dragomanref18_Unpack.mono_l : ∀ k, (∀ y0 y1 y2, LeO (dragomanref18_Unpack.l0 k y0 y1 y2) (dragomanref18_Unpack.l0 (k + 1) y0 y1 y2)) ∧ (∀ y0 y1 y2 y3, LeO (dragomanref18_Unpack.l1 k y0 y1 y2 y3) (dragomanref18_Unpack.l1 (k + 1) y0 y1 y2 y3))
  | 0 => ⟨fun _ _ _ r h => by simp [dragomanref18_Unpack.l0] at h, fun _ _ _ _ r h => by simp [dragomanref18_Unpack.l1] at h⟩
  | k + 1 => by
    obtain ⟨ih0, ih1⟩ := dragomanref18_Unpack.mono_l k
    refine ⟨?_, ?_⟩
    · intro y0 y1 y2
      unfold dragomanref18_Unpack.l0
      repeat' first
      | (with_reducible exact ih0 _ _ _)
      | (with_reducible exact ih1 _ _ _ _)
      | (with_reducible exact dragomanref18_Pack.mono _ _ _)
      | (with_reducible exact LeO.refl _)
      | (with_reducible exact LeO.none _)
      | (with_reducible refine LeO.ite ?_ ?_)
      | (with_reducible refine LeO.bind ?_ (fun _ => ?_))
      | exact ih0 _ _ _
      | exact ih1 _ _ _ _
      | exact dragomanref18_Pack.mono _ _ _
      | exact LeO.none _
      | refine LeO.ite ?_ ?_
      | refine LeO.bind ?_ (fun _ => ?_)
    · intro y0 y1 y2 y3
      unfold dragomanref18_Unpack.l1
      repeat' first
      | (with_reducible exact ih0 _ _ _)
      | (with_reducible exact ih1 _ _ _ _)
      | (with_reducible exact dragomanref18_Pack.mono _ _ _)
      | (with_reducible exact LeO.refl _)
      | (with_reducible exact LeO.none _)
      | (with_reducible refine LeO.ite ?_ ?_)
      | (with_reducible refine LeO.bind ?_ (fun _ => ?_))
      | exact ih0 _ _ _
      | exact ih1 _ _ _ _
      | exact dragomanref18_Pack.mono _ _ _
      | exact LeO.none _
      | refine LeO.ite ?_ ?_
      | refine LeO.bind ?_ (fun _ => ?_)
theorem dragomanref18_Unpack.mono : ∀ a0 a1 k, LeO (dragomanref18_Unpack.f k a0 a1) (dragomanref18_Unpack.f (k + 1) a0 a1) := by
  intro a0 a1 k
  obtain ⟨ih0, ih1⟩ := dragomanref18_Unpack.mono_l k
  unfold dragomanref18_Unpack.f
  repeat' first
      | (with_reducible exact ih0 _ _ _)
      | (with_reducible exact ih1 _ _ _ _)
      | (with_reducible exact dragomanref18_Pack.mono _ _ _)
      | (with_reducible exact LeO.refl _)
      | (with_reducible exact LeO.none _)
      | (with_reducible refine LeO.ite ?_ ?_)
      | (with_reducible refine LeO.bind ?_ (fun _ => ?_))
      | exact ih0 _ _ _
      | exact ih1 _ _ _ _
      | exact dragomanref18_Pack.mono _ _ _
      | exact LeO.none _
      | refine LeO.ite ?_ ?_
      | refine LeO.bind ?_ (fun _ => ?_)
set_option maxHeartbeats 8000000 in
set_option maxRecDepth 100000 in
theorem dragomanref18_Unpack.calls (k : Nat) (a0 : Int) (a1 : Int) (r1 : Int) (r2 : Int) (r3 : Bool) (w : World) (h : dragomanref18_Unpack.f k a0 a1 = some (r1, r2, r3)) :
    Calls Try.prog 35 #[.int .u8 a0, .int .u8 a1] w fun e w' => e = .returned (.tuple #[.int .i64 r1, .int .i64 r2, .bool r3]) ∧ Drawn0 w w' := by
  have H : (dragomanref18_Unpack.l0 k a0 a1 1) = some (r1, r2, r3) := h
  clear h
  have H' := Aside0.mk H
  clear H
  go_enter Try.func35, Try.ntmps35
  go_wp2
  go_loopg [7] k (fun kq v7 w' => ∃ (x7_1 : Int), v7 = .int .i64 x7_1 ∧ Aside0 (dragomanref18_Unpack.l0 kq a0 a1 x7_1 = some (r1, r2, r3)) ∧ Aside0 (kq ≤ k) ∧ Drawn0 w w')
  case atStart => exact ⟨(1), (by first | rfl | (simp; done) | (simp [*]; done)), H', ⟨Nat.le_refl _⟩, by repeat (first | exact Drawn0.refl _ | apply Drawn0.step)⟩
  case round =>
    clear H'
    try clear p2
    obtain ⟨x7_1, rfl, HA, HK1, ⟨m1, rfl⟩⟩ := hrel
    cases gk with
    | zero => exact absurd HA.out (by simp [dragomanref18_Unpack.l0])
    | succ k1 =>
      have H := HA.out
      clear HA
      simp only [dragomanref18_Unpack.l0] at H
      by_cases c3 : x7_1 ≤ 94
      · rw [if_pos c3] at H
        have c3b0 : decide (x7_1 ≤ 94) = true := decide_eq_true c3
        clear c3
        replace H := Option.bind_eq_some_iff.mp H
        obtain ⟨⟨t103, t104, t105⟩, A40, H⟩ := H
        replace H : (if t103 = a0 then (dragomanref18_Unpack.l1 k1 a0 a1 x7_1 1) else (dragomanref18_Unpack.l0 k1 a0 a1 (wrap64 (x7_1 + 1)))) = some (r1, r2, r3) := H
        have A4 := Aside0.mk A40
        clear A40
        by_cases c5 : t103 = a0
        · rw [if_pos c5] at H
          have c5b0 : (t103 == a0) = true := beq_iff_eq.mpr c5
          have c5b1 : (t103 != a0) = false := bne_eq_false_iff_eq.mpr c5
          clear c5
          have H' := Aside0.mk H
          clear H
          go_wp2_with (first | ((with_reducible refine gate_callee (f := 33) rfl ?_); refine goesL_ (some 21) rfl rfl Try.func33 (by kernel_rfl) rfl #[.int .i64 x7_1, .int .i64 1] rfl (by (try simp only [List.map_toArray, List.map_cons, List.map_nil]); first | done | rfl | (simp only [List.length_drop, List.length_take]; rfl)) ?_; (with_reducible refine (dragomanref18_Pack.calls k1 x7_1 1 t103 t104 t105 _ A4.out).mono ?_); rintro e w' ⟨rfl, ⟨nd, rfl⟩⟩; refine ⟨_, rfl, ?_⟩))
          go_loopg [11] k1 (fun kq v11 w' => ∃ (x11_2 : Int), v11 = .int .i64 x11_2 ∧ Aside0 (dragomanref18_Unpack.l1 kq a0 a1 x7_1 x11_2 = some (r1, r2, r3)) ∧ Aside0 (kq ≤ k1) ∧ Drawn0 w w')
          case atStart => exact ⟨(1), (by first | rfl | (simp; done) | (simp [*]; done)), H', ⟨Nat.le_refl _⟩, by repeat (first | exact Drawn0.refl _ | apply Drawn0.step)⟩
          case round =>
            clear H'
            try clear p2
            try clear c3
            try clear c3b0
            try clear c5
            try clear c5b0
            try clear c5b1
            try clear p2
            obtain ⟨x11_2, rfl, HA, HK2, ⟨m2, rfl⟩⟩ := hrel
            cases gk with
            | zero => exact absurd HA.out (by simp [dragomanref18_Unpack.l1])
            | succ k2 =>
              have H := HA.out
              clear HA
              simp only [dragomanref18_Unpack.l1] at H
              by_cases c6 : x11_2 ≤ 94
              · rw [if_pos c6] at H
                have c6b0 : decide (x11_2 ≤ 94) = true := decide_eq_true c6
                clear c6
                replace H := Option.bind_eq_some_iff.mp H
                obtain ⟨⟨t106, t107, t108⟩, A70, H⟩ := H
                replace H : (if t107 = a1 then (some (x7_1, x11_2, true)) else (dragomanref18_Unpack.l1 k2 a0 a1 x7_1 (wrap64 (x11_2 + 1)))) = some (r1, r2, r3) := H
                have A7 := Aside0.mk A70
                clear A70
                by_cases c8 : t107 = a1
                · rw [if_pos c8] at H
                  have c8b0 : (t107 == a1) = true := beq_iff_eq.mpr c8
                  have c8b1 : (t107 != a1) = false := bne_eq_false_iff_eq.mpr c8
                  clear c8
                  simp only [Option.some.injEq, Prod.mk.injEq] at H
                  obtain ⟨rfl, rfl, rfl⟩ := H
                  go_wp2_with (first | ((with_reducible refine gate_callee (f := 33) rfl ?_); refine goesL_ (some 35) rfl rfl Try.func33 (by kernel_rfl) rfl #[.int .i64 x7_1, .int .i64 x11_2] rfl (by (try simp only [List.map_toArray, List.map_cons, List.map_nil]); first | done | rfl | (simp only [List.length_drop, List.length_take]; rfl)) ?_; (with_reducible refine (dragomanref18_Pack.calls k2 x7_1 x11_2 t106 t107 t108 _ A7.out).mono ?_); rintro e w' ⟨rfl, ⟨nd, rfl⟩⟩; refine ⟨_, rfl, ?_⟩))
                  go_ret3
                  exact ⟨by first | rfl | (simp; done) | (simp [*]; done), by repeat (first | exact Drawn0.refl _ | apply Drawn0.step)⟩
                · rw [if_neg c8] at H
                  have c8b0 : (t107 == a1) = false := beq_eq_false_iff_ne.mpr c8
                  have c8b1 : (t107 != a1) = true := bne_iff_ne.mpr c8
                  have H' := Aside0.mk H
                  clear H
                  go_wp2_with (first | ((with_reducible refine gate_callee (f := 33) rfl ?_); refine goesL_ (some 35) rfl rfl Try.func33 (by kernel_rfl) rfl #[.int .i64 x7_1, .int .i64 x11_2] rfl (by (try simp only [List.map_toArray, List.map_cons, List.map_nil]); first | done | rfl | (simp only [List.length_drop, List.length_take]; rfl)) ?_; (with_reducible refine (dragomanref18_Pack.calls k2 x7_1 x11_2 t106 t107 t108 _ A7.out).mono ?_); rintro e w' ⟨rfl, ⟨nd, rfl⟩⟩; refine ⟨_, rfl, ?_⟩))
                  go_roundg k2
                  case measure => have := HK1.out; have := HK2.out; omega
                  case rel => exact ⟨(wrap64 (x11_2 + 1)), (by first | rfl | (simp; done) | (simp [*]; done)), H', ⟨by have := HK1.out; have := HK2.out; omega⟩, by repeat (first | exact Drawn0.refl _ | apply Drawn0.step)⟩
              · rw [if_neg c6] at H
                have c6b0 : decide (x11_2 ≤ 94) = false := decide_eq_false c6
                clear c6
                have H' := Aside0.mk H
                clear H
                go_wp2
                go_roundg k2
                case measure => have := HK1.out; have := HK2.out; omega
                case rel => exact ⟨(wrap64 (x7_1 + 1)), (by first | rfl | (simp; done) | (simp [*]; done)), H', ⟨by have := HK1.out; have := HK2.out; omega⟩, by repeat (first | exact Drawn0.refl _ | apply Drawn0.step)⟩
        · rw [if_neg c5] at H
          have c5b0 : (t103 == a0) = false := beq_eq_false_iff_ne.mpr c5
          have c5b1 : (t103 != a0) = true := bne_iff_ne.mpr c5
          have H' := Aside0.mk H
          clear H
          go_wp2_with (first | ((with_reducible refine gate_callee (f := 33) rfl ?_); refine goesL_ (some 21) rfl rfl Try.func33 (by kernel_rfl) rfl #[.int .i64 x7_1, .int .i64 1] rfl (by (try simp only [List.map_toArray, List.map_cons, List.map_nil]); first | done | rfl | (simp only [List.length_drop, List.length_take]; rfl)) ?_; (with_reducible refine (dragomanref18_Pack.calls k1 x7_1 1 t103 t104 t105 _ A4.out).mono ?_); rintro e w' ⟨rfl, ⟨nd, rfl⟩⟩; refine ⟨_, rfl, ?_⟩))
          go_roundg k1
          case measure => have := HK1.out; omega
          case rel => exact ⟨(wrap64 (x7_1 + 1)), (by first | rfl | (simp; done) | (simp [*]; done)), H', ⟨by have := HK1.out; omega⟩, by repeat (first | exact Drawn0.refl _ | apply Drawn0.step)⟩
      · rw [if_neg c3] at H
        have c3b0 : decide (x7_1 ≤ 94) = false := decide_eq_false c3
        clear c3
        simp only [Option.some.injEq, Prod.mk.injEq] at H
        obtain ⟨rfl, rfl, rfl⟩ := H
        go_wp2
        go_ret3
        exact ⟨by first | rfl | (simp; done) | (simp [*]; done), by repeat (first | exact Drawn0.refl _ | apply Drawn0.step)⟩

/-! ### dragomanlaw18_SjisPacks: function 9 -/
def dragomanlaw18_SjisPacks.f (k : Nat) (a0 : Int) (a1 : Int) (a2 : Int) (a3 : Int) : Option (Bool) := (sjis_Pack.f k a0 a1).bind fun bt109 => ((dragomanref18_Pack.f k a0 a1).bind fun bt112 => ((sjis_Unpack.f k a2 a3).bind fun bt115 => ((dragomanref18_Unpack.f k a2 a3).bind fun bt118 => (if bt109.1 = bt112.1 then (if bt109.2.1 = bt112.2.1 then (if (bt109.2.2 == bt112.2.2) = true then (if bt115.1 = bt118.1 then (if bt115.2.1 = bt118.2.1 then (some (bt115.2.2 == bt118.2.2)) else (some false)) else (some false)) else (some false)) else (some false)) else (some false)))))
theorem dragomanlaw18_SjisPacks.mono : ∀ a0 a1 a2 a3 k, LeO (dragomanlaw18_SjisPacks.f k a0 a1 a2 a3) (dragomanlaw18_SjisPacks.f (k + 1) a0 a1 a2 a3) := by
  intro a0 a1 a2 a3 k
  unfold dragomanlaw18_SjisPacks.f
  repeat' first
      | (with_reducible exact dragomanref18_Pack.mono _ _ _)
      | (with_reducible exact dragomanref18_Unpack.mono _ _ _)
      | (with_reducible exact sjis_Pack.mono _ _ _)
      | (with_reducible exact sjis_Unpack.mono _ _ _)
      | (with_reducible exact LeO.refl _)
      | (with_reducible exact LeO.none _)
      | (with_reducible refine LeO.ite ?_ ?_)
      | (with_reducible refine LeO.bind ?_ (fun _ => ?_))
      | exact dragomanref18_Pack.mono _ _ _
      | exact dragomanref18_Unpack.mono _ _ _
      | exact sjis_Pack.mono _ _ _
      | exact sjis_Unpack.mono _ _ _
      | exact LeO.none _
      | refine LeO.ite ?_ ?_
      | refine LeO.bind ?_ (fun _ => ?_)
set_option maxHeartbeats 8000000 in
set_option maxRecDepth 100000 in
theorem dragomanlaw18_SjisPacks.calls (k : Nat) (a0 : Int) (a1 : Int) (a2 : Int) (a3 : Int) (r : Bool) (w : World) (h : dragomanlaw18_SjisPacks.f k a0 a1 a2 a3 = some r) :
    Calls Try.prog 9 #[.int .i64 a0, .int .i64 a1, .int .u8 a2, .int .u8 a3] w fun e w' => e = .returned (.bool r) ∧ Drawn0 w w' := by
  have H : ((sjis_Pack.f k a0 a1).bind fun bt109 => ((dragomanref18_Pack.f k a0 a1).bind fun bt112 => ((sjis_Unpack.f k a2 a3).bind fun bt115 => ((dragomanref18_Unpack.f k a2 a3).bind fun bt118 => (if bt109.1 = bt112.1 then (if bt109.2.1 = bt112.2.1 then (if (bt109.2.2 == bt112.2.2) = true then (if bt115.1 = bt118.1 then (if bt115.2.1 = bt118.2.1 then (some (bt115.2.2 == bt118.2.2)) else (some false)) else (some false)) else (some false)) else (some false)) else (some false)))))) = some r := h
  clear h
  replace H := Option.bind_eq_some_iff.mp H
  obtain ⟨⟨t109, t110, t111⟩, A50, H⟩ := H
  replace H : ((dragomanref18_Pack.f k a0 a1).bind fun bt112 => ((sjis_Unpack.f k a2 a3).bind fun bt115 => ((dragomanref18_Unpack.f k a2 a3).bind fun bt118 => (if t109 = bt112.1 then (if t110 = bt112.2.1 then (if (t111 == bt112.2.2) = true then (if bt115.1 = bt118.1 then (if bt115.2.1 = bt118.2.1 then (some (bt115.2.2 == bt118.2.2)) else (some false)) else (some false)) else (some false)) else (some false)) else (some false))))) = some r := H
  have A5 := Aside0.mk A50
  clear A50
  replace H := Option.bind_eq_some_iff.mp H
  obtain ⟨⟨t112, t113, t114⟩, A60, H⟩ := H
  replace H : ((sjis_Unpack.f k a2 a3).bind fun bt115 => ((dragomanref18_Unpack.f k a2 a3).bind fun bt118 => (if t109 = t112 then (if t110 = t113 then (if (t111 == t114) = true then (if bt115.1 = bt118.1 then (if bt115.2.1 = bt118.2.1 then (some (bt115.2.2 == bt118.2.2)) else (some false)) else (some false)) else (some false)) else (some false)) else (some false)))) = some r := H
  have A6 := Aside0.mk A60
  clear A60
  replace H := Option.bind_eq_some_iff.mp H
  obtain ⟨⟨t115, t116, t117⟩, A70, H⟩ := H
  replace H : ((dragomanref18_Unpack.f k a2 a3).bind fun bt118 => (if t109 = t112 then (if t110 = t113 then (if (t111 == t114) = true then (if t115 = bt118.1 then (if t116 = bt118.2.1 then (some (t117 == bt118.2.2)) else (some false)) else (some false)) else (some false)) else (some false)) else (some false))) = some r := H
  have A7 := Aside0.mk A70
  clear A70
  replace H := Option.bind_eq_some_iff.mp H
  obtain ⟨⟨t118, t119, t120⟩, A80, H⟩ := H
  replace H : (if t109 = t112 then (if t110 = t113 then (if (t111 == t114) = true then (if t115 = t118 then (if t116 = t119 then (some (t117 == t120)) else (some false)) else (some false)) else (some false)) else (some false)) else (some false)) = some r := H
  have A8 := Aside0.mk A80
  clear A80
  by_cases c9 : t109 = t112
  · rw [if_pos c9] at H
    have c9b0 : (t109 == t112) = true := beq_iff_eq.mpr c9
    have c9b1 : (t109 != t112) = false := bne_eq_false_iff_eq.mpr c9
    clear c9
    by_cases c10 : t110 = t113
    · rw [if_pos c10] at H
      have c10b0 : (t110 == t113) = true := beq_iff_eq.mpr c10
      have c10b1 : (t110 != t113) = false := bne_eq_false_iff_eq.mpr c10
      clear c10
      by_cases c11 : (t111 == t114) = true
      · rw [if_pos c11] at H
        have c11b0 : (t111 == t114) = true := c11
        (try (have c11b1 : decide (t111 = t114) = true := by simpa using c11))
        (try (have c11b2 : (t111 == t114) = true := by simpa using c11))
        clear c11
        by_cases c12 : t115 = t118
        · rw [if_pos c12] at H
          have c12b0 : (t115 == t118) = true := beq_iff_eq.mpr c12
          have c12b1 : (t115 != t118) = false := bne_eq_false_iff_eq.mpr c12
          clear c12
          by_cases c13 : t116 = t119
          · rw [if_pos c13] at H
            have c13b0 : (t116 == t119) = true := beq_iff_eq.mpr c13
            have c13b1 : (t116 != t119) = false := bne_eq_false_iff_eq.mpr c13
            clear c13
            obtain rfl := Option.some.inj H
            go_enter Try.func9, Try.ntmps9
            go_wp2_with (first | ((with_reducible refine gate_callee (f := 32) rfl ?_); refine goesL_ (some 24) rfl rfl Try.func32 (by kernel_rfl) rfl #[.int .i64 a0, .int .i64 a1] rfl (by (try simp only [List.map_toArray, List.map_cons, List.map_nil]); first | done | rfl | (simp only [List.length_drop, List.length_take]; rfl)) ?_; (with_reducible refine (sjis_Pack.calls k a0 a1 t109 t110 t111 _ A5.out).mono ?_); rintro e w' ⟨rfl, ⟨nd, rfl⟩⟩; refine ⟨_, rfl, ?_⟩) | ((with_reducible refine gate_callee (f := 33) rfl ?_); refine goesL_ (some 31) rfl rfl Try.func33 (by kernel_rfl) rfl #[.int .i64 a0, .int .i64 a1] rfl (by (try simp only [List.map_toArray, List.map_cons, List.map_nil]); first | done | rfl | (simp only [List.length_drop, List.length_take]; rfl)) ?_; (with_reducible refine (dragomanref18_Pack.calls k a0 a1 t112 t113 t114 _ A6.out).mono ?_); rintro e w' ⟨rfl, ⟨nd, rfl⟩⟩; refine ⟨_, rfl, ?_⟩) | ((with_reducible refine gate_callee (f := 34) rfl ?_); refine goesL_ (some 38) rfl rfl Try.func34 (by kernel_rfl) rfl #[.int .u8 a2, .int .u8 a3] rfl (by (try simp only [List.map_toArray, List.map_cons, List.map_nil]); first | done | rfl | (simp only [List.length_drop, List.length_take]; rfl)) ?_; (with_reducible refine (sjis_Unpack.calls k a2 a3 t115 t116 t117 _ A7.out).mono ?_); rintro e w' ⟨rfl, ⟨nd, rfl⟩⟩; refine ⟨_, rfl, ?_⟩) | ((with_reducible refine gate_callee (f := 35) rfl ?_); refine goesL_ (some 45) rfl rfl Try.func35 (by kernel_rfl) rfl #[.int .u8 a2, .int .u8 a3] rfl (by (try simp only [List.map_toArray, List.map_cons, List.map_nil]); first | done | rfl | (simp only [List.length_drop, List.length_take]; rfl)) ?_; (with_reducible refine (dragomanref18_Unpack.calls k a2 a3 t118 t119 t120 _ A8.out).mono ?_); rintro e w' ⟨rfl, ⟨nd, rfl⟩⟩; refine ⟨_, rfl, ?_⟩))
            go_ret
            exact ⟨by first | rfl | (simp; done) | (simp [*]; done), by repeat (first | exact Drawn0.refl _ | apply Drawn0.step)⟩
          · rw [if_neg c13] at H
            have c13b0 : (t116 == t119) = false := beq_eq_false_iff_ne.mpr c13
            have c13b1 : (t116 != t119) = true := bne_iff_ne.mpr c13
            obtain rfl := Option.some.inj H
            go_enter Try.func9, Try.ntmps9
            go_wp2_with (first | ((with_reducible refine gate_callee (f := 32) rfl ?_); refine goesL_ (some 24) rfl rfl Try.func32 (by kernel_rfl) rfl #[.int .i64 a0, .int .i64 a1] rfl (by (try simp only [List.map_toArray, List.map_cons, List.map_nil]); first | done | rfl | (simp only [List.length_drop, List.length_take]; rfl)) ?_; (with_reducible refine (sjis_Pack.calls k a0 a1 t109 t110 t111 _ A5.out).mono ?_); rintro e w' ⟨rfl, ⟨nd, rfl⟩⟩; refine ⟨_, rfl, ?_⟩) | ((with_reducible refine gate_callee (f := 33) rfl ?_); refine goesL_ (some 31) rfl rfl Try.func33 (by kernel_rfl) rfl #[.int .i64 a0, .int .i64 a1] rfl (by (try simp only [List.map_toArray, List.map_cons, List.map_nil]); first | done | rfl | (simp only [List.length_drop, List.length_take]; rfl)) ?_; (with_reducible refine (dragomanref18_Pack.calls k a0 a1 t112 t113 t114 _ A6.out).mono ?_); rintro e w' ⟨rfl, ⟨nd, rfl⟩⟩; refine ⟨_, rfl, ?_⟩) | ((with_reducible refine gate_callee (f := 34) rfl ?_); refine goesL_ (some 38) rfl rfl Try.func34 (by kernel_rfl) rfl #[.int .u8 a2, .int .u8 a3] rfl (by (try simp only [List.map_toArray, List.map_cons, List.map_nil]); first | done | rfl | (simp only [List.length_drop, List.length_take]; rfl)) ?_; (with_reducible refine (sjis_Unpack.calls k a2 a3 t115 t116 t117 _ A7.out).mono ?_); rintro e w' ⟨rfl, ⟨nd, rfl⟩⟩; refine ⟨_, rfl, ?_⟩) | ((with_reducible refine gate_callee (f := 35) rfl ?_); refine goesL_ (some 45) rfl rfl Try.func35 (by kernel_rfl) rfl #[.int .u8 a2, .int .u8 a3] rfl (by (try simp only [List.map_toArray, List.map_cons, List.map_nil]); first | done | rfl | (simp only [List.length_drop, List.length_take]; rfl)) ?_; (with_reducible refine (dragomanref18_Unpack.calls k a2 a3 t118 t119 t120 _ A8.out).mono ?_); rintro e w' ⟨rfl, ⟨nd, rfl⟩⟩; refine ⟨_, rfl, ?_⟩))
            go_ret
            exact ⟨by first | rfl | (simp; done) | (simp [*]; done), by repeat (first | exact Drawn0.refl _ | apply Drawn0.step)⟩
        · rw [if_neg c12] at H
          have c12b0 : (t115 == t118) = false := beq_eq_false_iff_ne.mpr c12
          have c12b1 : (t115 != t118) = true := bne_iff_ne.mpr c12
          obtain rfl := Option.some.inj H
          go_enter Try.func9, Try.ntmps9
          go_wp2_with (first | ((with_reducible refine gate_callee (f := 32) rfl ?_); refine goesL_ (some 24) rfl rfl Try.func32 (by kernel_rfl) rfl #[.int .i64 a0, .int .i64 a1] rfl (by (try simp only [List.map_toArray, List.map_cons, List.map_nil]); first | done | rfl | (simp only [List.length_drop, List.length_take]; rfl)) ?_; (with_reducible refine (sjis_Pack.calls k a0 a1 t109 t110 t111 _ A5.out).mono ?_); rintro e w' ⟨rfl, ⟨nd, rfl⟩⟩; refine ⟨_, rfl, ?_⟩) | ((with_reducible refine gate_callee (f := 33) rfl ?_); refine goesL_ (some 31) rfl rfl Try.func33 (by kernel_rfl) rfl #[.int .i64 a0, .int .i64 a1] rfl (by (try simp only [List.map_toArray, List.map_cons, List.map_nil]); first | done | rfl | (simp only [List.length_drop, List.length_take]; rfl)) ?_; (with_reducible refine (dragomanref18_Pack.calls k a0 a1 t112 t113 t114 _ A6.out).mono ?_); rintro e w' ⟨rfl, ⟨nd, rfl⟩⟩; refine ⟨_, rfl, ?_⟩) | ((with_reducible refine gate_callee (f := 34) rfl ?_); refine goesL_ (some 38) rfl rfl Try.func34 (by kernel_rfl) rfl #[.int .u8 a2, .int .u8 a3] rfl (by (try simp only [List.map_toArray, List.map_cons, List.map_nil]); first | done | rfl | (simp only [List.length_drop, List.length_take]; rfl)) ?_; (with_reducible refine (sjis_Unpack.calls k a2 a3 t115 t116 t117 _ A7.out).mono ?_); rintro e w' ⟨rfl, ⟨nd, rfl⟩⟩; refine ⟨_, rfl, ?_⟩) | ((with_reducible refine gate_callee (f := 35) rfl ?_); refine goesL_ (some 45) rfl rfl Try.func35 (by kernel_rfl) rfl #[.int .u8 a2, .int .u8 a3] rfl (by (try simp only [List.map_toArray, List.map_cons, List.map_nil]); first | done | rfl | (simp only [List.length_drop, List.length_take]; rfl)) ?_; (with_reducible refine (dragomanref18_Unpack.calls k a2 a3 t118 t119 t120 _ A8.out).mono ?_); rintro e w' ⟨rfl, ⟨nd, rfl⟩⟩; refine ⟨_, rfl, ?_⟩))
          go_ret
          exact ⟨by first | rfl | (simp; done) | (simp [*]; done), by repeat (first | exact Drawn0.refl _ | apply Drawn0.step)⟩
      · rw [if_neg c11] at H
        have c11b0 : (t111 == t114) = false := by simpa using c11
        (try (have c11b1 : decide (t111 = t114) = false := by simpa using c11))
        (try (have c11b2 : (t111 == t114) = false := by simpa using c11))
        (try (have c11b3 : ¬ (t111 = t114) := by simpa using c11))
        clear c11
        obtain rfl := Option.some.inj H
        go_enter Try.func9, Try.ntmps9
        go_wp2_with (first | ((with_reducible refine gate_callee (f := 32) rfl ?_); refine goesL_ (some 24) rfl rfl Try.func32 (by kernel_rfl) rfl #[.int .i64 a0, .int .i64 a1] rfl (by (try simp only [List.map_toArray, List.map_cons, List.map_nil]); first | done | rfl | (simp only [List.length_drop, List.length_take]; rfl)) ?_; (with_reducible refine (sjis_Pack.calls k a0 a1 t109 t110 t111 _ A5.out).mono ?_); rintro e w' ⟨rfl, ⟨nd, rfl⟩⟩; refine ⟨_, rfl, ?_⟩) | ((with_reducible refine gate_callee (f := 33) rfl ?_); refine goesL_ (some 31) rfl rfl Try.func33 (by kernel_rfl) rfl #[.int .i64 a0, .int .i64 a1] rfl (by (try simp only [List.map_toArray, List.map_cons, List.map_nil]); first | done | rfl | (simp only [List.length_drop, List.length_take]; rfl)) ?_; (with_reducible refine (dragomanref18_Pack.calls k a0 a1 t112 t113 t114 _ A6.out).mono ?_); rintro e w' ⟨rfl, ⟨nd, rfl⟩⟩; refine ⟨_, rfl, ?_⟩) | ((with_reducible refine gate_callee (f := 34) rfl ?_); refine goesL_ (some 38) rfl rfl Try.func34 (by kernel_rfl) rfl #[.int .u8 a2, .int .u8 a3] rfl (by (try simp only [List.map_toArray, List.map_cons, List.map_nil]); first | done | rfl | (simp only [List.length_drop, List.length_take]; rfl)) ?_; (with_reducible refine (sjis_Unpack.calls k a2 a3 t115 t116 t117 _ A7.out).mono ?_); rintro e w' ⟨rfl, ⟨nd, rfl⟩⟩; refine ⟨_, rfl, ?_⟩) | ((with_reducible refine gate_callee (f := 35) rfl ?_); refine goesL_ (some 45) rfl rfl Try.func35 (by kernel_rfl) rfl #[.int .u8 a2, .int .u8 a3] rfl (by (try simp only [List.map_toArray, List.map_cons, List.map_nil]); first | done | rfl | (simp only [List.length_drop, List.length_take]; rfl)) ?_; (with_reducible refine (dragomanref18_Unpack.calls k a2 a3 t118 t119 t120 _ A8.out).mono ?_); rintro e w' ⟨rfl, ⟨nd, rfl⟩⟩; refine ⟨_, rfl, ?_⟩))
        go_ret
        exact ⟨by first | rfl | (simp; done) | (simp [*]; done), by repeat (first | exact Drawn0.refl _ | apply Drawn0.step)⟩
    · rw [if_neg c10] at H
      have c10b0 : (t110 == t113) = false := beq_eq_false_iff_ne.mpr c10
      have c10b1 : (t110 != t113) = true := bne_iff_ne.mpr c10
      obtain rfl := Option.some.inj H
      go_enter Try.func9, Try.ntmps9
      go_wp2_with (first | ((with_reducible refine gate_callee (f := 32) rfl ?_); refine goesL_ (some 24) rfl rfl Try.func32 (by kernel_rfl) rfl #[.int .i64 a0, .int .i64 a1] rfl (by (try simp only [List.map_toArray, List.map_cons, List.map_nil]); first | done | rfl | (simp only [List.length_drop, List.length_take]; rfl)) ?_; (with_reducible refine (sjis_Pack.calls k a0 a1 t109 t110 t111 _ A5.out).mono ?_); rintro e w' ⟨rfl, ⟨nd, rfl⟩⟩; refine ⟨_, rfl, ?_⟩) | ((with_reducible refine gate_callee (f := 33) rfl ?_); refine goesL_ (some 31) rfl rfl Try.func33 (by kernel_rfl) rfl #[.int .i64 a0, .int .i64 a1] rfl (by (try simp only [List.map_toArray, List.map_cons, List.map_nil]); first | done | rfl | (simp only [List.length_drop, List.length_take]; rfl)) ?_; (with_reducible refine (dragomanref18_Pack.calls k a0 a1 t112 t113 t114 _ A6.out).mono ?_); rintro e w' ⟨rfl, ⟨nd, rfl⟩⟩; refine ⟨_, rfl, ?_⟩) | ((with_reducible refine gate_callee (f := 34) rfl ?_); refine goesL_ (some 38) rfl rfl Try.func34 (by kernel_rfl) rfl #[.int .u8 a2, .int .u8 a3] rfl (by (try simp only [List.map_toArray, List.map_cons, List.map_nil]); first | done | rfl | (simp only [List.length_drop, List.length_take]; rfl)) ?_; (with_reducible refine (sjis_Unpack.calls k a2 a3 t115 t116 t117 _ A7.out).mono ?_); rintro e w' ⟨rfl, ⟨nd, rfl⟩⟩; refine ⟨_, rfl, ?_⟩) | ((with_reducible refine gate_callee (f := 35) rfl ?_); refine goesL_ (some 45) rfl rfl Try.func35 (by kernel_rfl) rfl #[.int .u8 a2, .int .u8 a3] rfl (by (try simp only [List.map_toArray, List.map_cons, List.map_nil]); first | done | rfl | (simp only [List.length_drop, List.length_take]; rfl)) ?_; (with_reducible refine (dragomanref18_Unpack.calls k a2 a3 t118 t119 t120 _ A8.out).mono ?_); rintro e w' ⟨rfl, ⟨nd, rfl⟩⟩; refine ⟨_, rfl, ?_⟩))
      go_ret
      exact ⟨by first | rfl | (simp; done) | (simp [*]; done), by repeat (first | exact Drawn0.refl _ | apply Drawn0.step)⟩
  · rw [if_neg c9] at H
    have c9b0 : (t109 == t112) = false := beq_eq_false_iff_ne.mpr c9
    have c9b1 : (t109 != t112) = true := bne_iff_ne.mpr c9
    obtain rfl := Option.some.inj H
    go_enter Try.func9, Try.ntmps9
    go_wp2_with (first | ((with_reducible refine gate_callee (f := 32) rfl ?_); refine goesL_ (some 24) rfl rfl Try.func32 (by kernel_rfl) rfl #[.int .i64 a0, .int .i64 a1] rfl (by (try simp only [List.map_toArray, List.map_cons, List.map_nil]); first | done | rfl | (simp only [List.length_drop, List.length_take]; rfl)) ?_; (with_reducible refine (sjis_Pack.calls k a0 a1 t109 t110 t111 _ A5.out).mono ?_); rintro e w' ⟨rfl, ⟨nd, rfl⟩⟩; refine ⟨_, rfl, ?_⟩) | ((with_reducible refine gate_callee (f := 33) rfl ?_); refine goesL_ (some 31) rfl rfl Try.func33 (by kernel_rfl) rfl #[.int .i64 a0, .int .i64 a1] rfl (by (try simp only [List.map_toArray, List.map_cons, List.map_nil]); first | done | rfl | (simp only [List.length_drop, List.length_take]; rfl)) ?_; (with_reducible refine (dragomanref18_Pack.calls k a0 a1 t112 t113 t114 _ A6.out).mono ?_); rintro e w' ⟨rfl, ⟨nd, rfl⟩⟩; refine ⟨_, rfl, ?_⟩) | ((with_reducible refine gate_callee (f := 34) rfl ?_); refine goesL_ (some 38) rfl rfl Try.func34 (by kernel_rfl) rfl #[.int .u8 a2, .int .u8 a3] rfl (by (try simp only [List.map_toArray, List.map_cons, List.map_nil]); first | done | rfl | (simp only [List.length_drop, List.length_take]; rfl)) ?_; (with_reducible refine (sjis_Unpack.calls k a2 a3 t115 t116 t117 _ A7.out).mono ?_); rintro e w' ⟨rfl, ⟨nd, rfl⟩⟩; refine ⟨_, rfl, ?_⟩) | ((with_reducible refine gate_callee (f := 35) rfl ?_); refine goesL_ (some 45) rfl rfl Try.func35 (by kernel_rfl) rfl #[.int .u8 a2, .int .u8 a3] rfl (by (try simp only [List.map_toArray, List.map_cons, List.map_nil]); first | done | rfl | (simp only [List.length_drop, List.length_take]; rfl)) ?_; (with_reducible refine (dragomanref18_Unpack.calls k a2 a3 t118 t119 t120 _ A8.out).mono ?_); rintro e w' ⟨rfl, ⟨nd, rfl⟩⟩; refine ⟨_, rfl, ?_⟩))
    go_ret
    exact ⟨by first | rfl | (simp; done) | (simp [*]; done), by repeat (first | exact Drawn0.refl _ | apply Drawn0.step)⟩

/-- THE ONE PURE STATEMENT of dragomanlaw18_SjisPacks: yours. -/
def dragomanlaw18_SjisPacks.Pure : Prop := ∀ (a0 : Int) (a1 : Int) (a2 : Int) (a3 : Int), (Lit.int .i64 a0).wf = true → (Lit.int .i64 a1).wf = true → (Lit.int .u8 a2).wf = true → (Lit.int .u8 a3).wf = true → ∃ k, dragomanlaw18_SjisPacks.f k a0 a1 a2 a3 = some true
theorem dragomanlaw18_SjisPacks.walk (P : dragomanlaw18_SjisPacks.Pure) (a0 : Int) (a1 : Int) (a2 : Int) (a3 : Int) (w : World) (w0 : (Lit.int .i64 a0).wf = true) (w1 : (Lit.int .i64 a1).wf = true) (w2 : (Lit.int .u8 a2).wf = true) (w3 : (Lit.int .u8 a3).wf = true) :
    Calls Try.prog 9 #[.int .i64 a0, .int .i64 a1, .int .u8 a2, .int .u8 a3] w fun e w' => e = .returned (.bool true) ∧ Below w.heap.size w w' := by
  obtain ⟨k, h⟩ := P a0 a1 a2 a3 w0 w1 w2 w3
  refine (dragomanlaw18_SjisPacks.calls k a0 a1 a2 a3 true w h).mono ?_
  rintro e w' ⟨rfl, hd⟩
  exact ⟨rfl, hd.below⟩

end Go.Proofs.Ytadhfojgifhjcaa.PSjisPacks
