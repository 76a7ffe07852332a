/- The reference's New, walked. -/
import Derived.Test.YtkbblppoalgkmaaDeU
import Derived.Test.YtkbblppoalgkmaaDeT
namespace Go.Proofs.Ytkbblppoalgkmaa.De
open Go.RowKit Go.Maps Go.Proofs.YtkbblppoalgkmaaW.PrintWords Go.Proofs.YtkbblppoalgkmaaW.PrintLast Go.Proofs.YtkbblppoalgkmaaW.PrintMore
open Go.Proofs.Ytkbblppoalgkmaa.U8 (scan3)
set_option linter.unusedVariables false
set_option linter.unusedSimpArgs false
theorem put2 {w : World} {g : Nat} {t : TypeId} {o0 o1 : Value} (h : w.heap[g]? = some (.cells #[o0, o1] t (0, 0))) (a0 a1 : Value) : ((w.setCell ⟨g, 0, none⟩ a0).setCell ⟨g, 1, none⟩ a1).heap[g]? = some (.cells #[a0, a1] t (0, 0)) :=
  blk_set (blk_set h 0 a0) 1 a1
theorem below2 {B : Nat} {w0 w : World} (h : Below B w0 w) {g : Nat} (hg : B ≤ g) (a0 a1 : Value) : Below B w0 ((w.setCell ⟨g, 0, none⟩ a0).setCell ⟨g, 1, none⟩ a1) :=
  (h.setCell (p := ⟨g, 0, none⟩) hg a0).setCell (p := ⟨g, 1, none⟩) hg a1
def RefNewEnd (first : Int) (s : ByteArray) (w : World) (e : Ending) (w' : World) : Prop :=
  Below w.heap.size w w' ∧ ((errOf first s ≠ 0 ∧ e = .returned (.tuple #[.agg #[.int .i64 0, .slice none 0 0], .int .i64 (errOf first s)])) ∨ (errOf first s = 0 ∧ ∃ A c, e = .returned (.tuple #[.agg #[.int .i64 first, .slice A (runes s).length c], .int .i64 0]) ∧ Kd.C (Kd.int .i32) w' A (runes s).length (runes s)))
theorem ref_err {first : Int} {s : ByteArray} {w w' : World} {k : Int} (he : Hid (errOf first s = k)) (hk : k ≠ 0) (hb : Below w.heap.size w w') : RefNewEnd first s w (.returned (.tuple #[.agg #[.int .i64 0, .slice none 0 0], .int .i64 k])) w' :=
  ⟨hb, .inl ⟨by rw [he.out]; exact hk, by rw [he.out]⟩⟩
theorem ref_ok {first : Int} {s : ByteArray} {w w' : World} {A : Option Addr} {c : Nat} {L : List Int} (he : Hid (errOf first s = 0)) (hL : Hid (L = runes s)) (hb : Below w.heap.size w w') (hC : Kd.C (Kd.int .i32) w' A L.length L) : RefNewEnd first s w (.returned (.tuple #[.agg #[.int .i64 first, .slice A L.length c], .int .i64 0])) w' := by
  have h := hL.out
  subst h
  exact ⟨hb, .inr ⟨he.out, A, c, rfl, hC⟩⟩
set_option maxHeartbeats 4000000 in
set_option maxRecDepth 100000 in
theorem refNewC (first : Int) (s : ByteArray) (w : World) (hs : s.size ≤ 100000) : Calls Try.prog 10 #[.int .i64 first, .string s] w (RefNewEnd first s w) := by
  have BK : (w.alloc (.cells #[.int .i64 0, .slice none 0 0] 35)).heap[w.heap.size]? = some (.cells #[.int .i64 0, .slice none 0 0] 35 (0, 0)) := heap_alloc_new _ _
  have bk0 := blk_cell BK 0
  have bk1 := blk_cell BK 1
  have bf0 := blk_frozen BK 0
  have bf1 := blk_frozen BK 1
  have HBK := Lib.hid BK
  clear BK
  by_cases h0 : first < 0
  · have he : errOf first s = 2 := if_pos (.inl h0)
    have HE := Lib.hid he
    clear he
    go_enter Try.func10, Try.ntmps10
    go_wp2_with fail
    refine bodyPost_ret (results_ct rfl _ _ w.heap.size 35 _ (0, 0) _ rfl HBK.out Try.underlying35 rfl (by kernel_rfl)) rfl ?_
    exact ref_err HE (by decide) (below_alloc (Below.refl _ _) _)
  · by_cases h1 : first > 255
    · have he : errOf first s = 2 := if_pos (.inr h1)
      have HE := Lib.hid he
      clear he
      go_enter Try.func10, Try.ntmps10
      go_wp2_with fail
      refine bodyPost_ret (results_ct rfl _ _ w.heap.size 35 _ (0, 0) _ rfl HBK.out Try.underlying35 rfl (by kernel_rfl)) rfl ?_
      exact ref_err HE (by decide) (below_alloc (Below.refl _ _) _)
    · have HR : Hid (¬ (first < 0 ∨ 255 < first)) := Lib.hid (by omega)
      have kconv : ∀ W : World, (convert 9 41 (.string s)).run Try.prog W = .ok (.slice (some ⟨W.heap.size, 0, none⟩) s.size (grownCap W s.size 0 5)) (Lib.bytesWorld W 5 s) := fun W => Lib.run_convert_string_bytes W 9 41 5 s Try.underlying9 Try.underlying41 Try.underlying5
      have hz1 : (w.alloc (.cells #[.int .i64 0, .slice none 0 0] 35)).heap.size = w.heap.size + 1 := by simp
      have hba1 : Below w.heap.size w (w.alloc (.cells #[.int .i64 0, .slice none 0 0] 35)) := below_alloc (Below.refl _ _) _
      go_enter Try.func10, Try.ntmps10
      go_upto_region 1 with fail
      generalize hW1 : w.alloc (.cells #[.int .i64 0, .slice none 0 0] 35) = W1 at *
      clear hW1
      have HC := U8.refScalarsC (some ⟨W1.heap.size, 0, none⟩) (grownCap W1 s.size 0 5) (bytesOf s) (Lib.bytesWorld W1 5 s) (bytes_C W1 s (by omega)) (by rw [bytesOf_length]; exact grownCap_ge _ _ _ _) (bytes_byte s) (by rw [bytesOf_length]; omega)
      rw [bytesOf_length] at HC
      have HT0 : Hid (scan3 (s.size + 1) (bytesOf s) = scan3 ((bytesOf s).length + 1) (bytesOf s)) := Lib.hid (by rw [bytesOf_length])
      obtain ⟨T, hT⟩ : ∃ T, T = scan3 (s.size + 1) (bytesOf s) := ⟨_, rfl⟩
      rw [← hT] at HC HT0
      have HS := Lib.hid HC
      have HB1 : Hid (Below w.heap.size w (Lib.bytesWorld W1 5 s)) := Lib.hid (on hba1 (bytes_below W1 s))
      have HLT : Hid (w.heap.size < (Lib.bytesWorld W1 5 s).heap.size) := Lib.hid (by rw [Lib.bytesWorld_size, hz1]; omega)
      have HBKB : Hid ((Lib.bytesWorld W1 5 s).heap[w.heap.size]? = some (.cells #[.int .i64 0, .slice none 0 0] 35 (0, 0))) := Lib.hid (((bytes_below W1 s).block _ (by rw [hz1]; omega)).trans HBK.out)
      clear HC hT hz1 hba1
      go_wp2_with fail
      refine HS.out.mono ?_
      rintro e w1 ⟨v, rfl, hown, hb⟩
      have HB2 := Lib.hid (on HB1.out hb)
      have HBK2 : Hid (w1.heap[w.heap.size]? = some (.cells #[.int .i64 0, .slice none 0 0] 35 (0, 0))) := Lib.hid ((hb.block _ HLT.out).trans HBKB.out)
      obtain ⟨A, c, rfl⟩ := own_slice hown
      have HO := Lib.hid hown
      have ck0 := blk_cell HBK2.out 0
      have ck1 := blk_cell HBK2.out 1
      have cf0 := blk_frozen HBK2.out 0
      have cf1 := blk_frozen HBK2.out 1
      clear hb hown HS kconv bk0 bk1 bf0 bf1
      cases hv : vb s with
      | false =>
        have hne : T.2.2 ≠ 0 := by rw [HT0.out]; exact bad_scan s hv
        have he := err_field HR.out hv
        obtain ⟨q, hq⟩ : ∃ q, q = T.2.2 := ⟨_, rfl⟩
        rw [← hq] at hne ⊢
        have k0 : (q != 0) = true := bne_iff_ne.mpr hne
        have HE := Lib.hid he
        clear he hne hq hv
        go_wp2_with fail
        refine bodyPost_ret (results_ct rfl _ _ w.heap.size 35 _ (0, 0) _ rfl (put2 HBK2.out _ _) Try.underlying35 rfl (by kernel_rfl)) rfl ?_
        exact ref_err HE (by decide) (below2 HB2.out (Nat.le_refl _) _ _)
      | true =>
        obtain ⟨t1, t2⟩ := runes_scan s hv
        rw [← HT0.out] at t1 t2
        rw [t1, t2]
        have HO2 : Hid (w1.ownsRow (Lib.bytesWorld W1 5 s).heap.size 21 1 (.slice A (runes s).length c) (runes s).length (nums .i32 (runes s))) := Lib.hid (by rw [← t2]; exact HO.out)
        clear HO
        by_cases hl : 256 < first + ((runes s).length : Int)
        · have he := err_long HR.out hv hl
          have e1 : wrap64 (256 - first) = 256 - first := by unfold wrap64; omega
          have k1 : ((runes s).length : Int) > 256 - first := by omega
          have HE := Lib.hid he
          obtain ⟨L, hL⟩ : ∃ L, L = runes s := ⟨_, rfl⟩
          rw [← hL] at k1 ⊢
          have HL := Lib.hid hL
          clear he hv hl HO2 t1 t2 hL
          go_wp2_with fail
          refine bodyPost_ret (results_ct rfl _ _ w.heap.size 35 _ (0, 0) _ rfl (put2 HBK2.out _ _) Try.underlying35 rfl (by kernel_rfl)) rfl ?_
          exact ref_err HE (by decide) (below2 HB2.out (Nat.le_refl _) _ _)
        · have he := err_ok HR.out hv hl
          have e1 : wrap64 (256 - first) = 256 - first := by unfold wrap64; omega
          have k1 : ¬ ((runes s).length : Int) > 256 - first := by omega
          have HE := Lib.hid he
          obtain ⟨L, hL⟩ : ∃ L, L = runes s := ⟨_, rfl⟩
          rw [← hL] at k1 HO2 ⊢
          have HL := Lib.hid hL
          clear he hv hl t1 t2 hL
          have hne : some w.heap.size ≠ (Value.slice A L.length c).ownBlock := fun h => by
            have := own_base HO2.out _ h.symm
            have := HLT.out
            omega
          have HO3 : Hid (∀ a0 a1 : Value, Kd.C (Kd.int .i32) ((w1.setCell ⟨w.heap.size, 0, none⟩ a0).setCell ⟨w.heap.size, 1, none⟩ a1) A L.length L) := Lib.hid fun a0 a1 => Kd.C_of_reads (d := (0 : Int)) (own_reads' (own_setCell (own_setCell HO2.out (p := ⟨w.heap.size, 0, none⟩) hne a0) (p := ⟨w.heap.size, 1, none⟩) hne a1))
          clear hne HO2
          go_wp2_with fail
          refine bodyPost_ret (results_ct rfl _ _ w.heap.size 35 _ (0, 0) _ rfl (put2 HBK2.out _ _) Try.underlying35 rfl (by kernel_rfl)) rfl ?_
          exact ref_ok HE HL (below2 HB2.out (Nat.le_refl _) _ _) (HO3.out _ _)
end Go.Proofs.Ytkbblppoalgkmaa.De
